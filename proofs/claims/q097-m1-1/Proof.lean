import JvmDerived
import JvmDerived.Pilot.@@N@@Statement
import JvmDerived.Pilot.@@N@@Code
set_option linter.unusedVariables false
set_option linter.unusedSimpArgs false
@@BLOCK:NumsL.lean.txt@@
namespace Jvm.RoadKit
open Sem ClassFile Op Lib Jvm.Stand Jvm.Free Jvm.LawKit
section New
variable {p : Program} {l : Launch} {e : Env} {R : Room} {s : State} {m : MethodId} {args : Array Value} {below : List Frame} {meth : Method} {c : Code} {T : State} {locs : List Loc} {cells slots : Nat}
theorem retI (X : Stand p l e R s m args below meth c T locs cells slots) (hx : p.tables.exec = Jvm.exec) {pc : Nat} {Ls : Array Slot} {z : Int32} {rest : List Value} (hret : meth.sig.returnType = some .int) (hd : decode c.code pc = .ok (.ireturn, 1)) {fs : List Frame}
    (hl : ∀ (f : JFrame) (acts : List Action), f.method = m → f.locked = none → f.entered = [] → (doReturn e (T.setTop f) acts (some (.int z))).1 = T.setFrames fs) : Steps p.tables e below (T.setTop (mkF m pc Ls (.int z :: rest))) (T.setFrames fs) := by
  have hm' : T.vm.method? m = some meth := X.method'
  have hn : narrow .int (.int z) = .int z := rfl
  show Steps p.tables e below (T.setTop { method := m, pc := pc, locals := Ls, stack := _ :: rest, locked := none }) _
  jvm_step X.here [X.here.top, hx, hd, hm', hret, hn]
  first | (intro acts; rw [hl _ acts rfl rfl rfl]) | rw [hl _ _ rfl rfl rfl]
  exact Steps.refl _
end New
end Jvm.RoadKit
namespace Jvm.Pilot.@@N@@
open Jvm Jvm.ClassFile Sem Op Lib Jvm.Free Jvm.Stand Jvm.LawKit Jvm.RoadKit Bundle Jvm.Pilot.@@N@@.Jvm.D
section OwnLayer
variable {p : Program} {l : Launch} {e : Env} {R : Room} {s : State} {m : MethodId} {args : Array Value} {below : List Frame} {meth : Method} {c : Code} {T T' : State} {h h' : Heap} {n0 ck sk ck' sk' : Nat} {Z : State} {a0 : Array Value} {Post : Outcome → State → Prop} {g g' : JFrame}
/-- from this state and frame the run comes to an end of the invocation of which Post holds -/
def Go (p : Program) (e : Env) (below : List Frame) (Post : Outcome → State → Prop) (T : State) (g : JFrame) : Prop :=
  ∃ s₂ o, Steps p.tables e below (T.setTop g) s₂ ∧ s₂.status = .running ∧ Ended s₂ below o ∧ Post o s₂
theorem Go.st (hs : ∀ t, Steps p.tables e below (T'.setTop g') t → Steps p.tables e below (T.setTop g) t) (k : Go p e below Post T' g') : Go p e below Post T g := by
  obtain ⟨s2, o, h1, h2⟩ := k
  exact ⟨s2, o, hs _ h1, h2⟩
/-- where the walk stands: the heap is h; what was written lies at or above n0; at most ck cells and sk slots were made -/
def Stn (p : Program) (l : Launch) (e : Env) (R : Room) (s : State) (m : MethodId) (args : Array Value) (below : List Frame) (meth : Method) (c : Code) (n0 : Nat) (T : State) (h : Heap) (ck sk : Nat) : Prop :=
  T.heap = h ∧ ∃ locs, Fr n0 locs ∧ Stand p l e R s m args below meth c T locs ck sk
theorem Stn.here (X : Stn p l e R s m args below meth c n0 T h ck sk) : At T m c below := by
  obtain ⟨_, _, _, Y⟩ := X
  exact Y.here
theorem Stn.mono (X : Stn p l e R s m args below meth c n0 T h ck sk) (h1 : ck ≤ ck') (h2 : sk ≤ sk') : Stn p l e R s m args below meth c n0 T h ck' sk' := by
  obtain ⟨e1, L, N, Y⟩ := X
  exact ⟨e1, L, N, Y.more h1 h2⟩
/-- what a body's end says -/
def PostW (s : State) (n0 C S : Nat) (Q : Option Value → Heap → Prop) (o : Outcome) (U : State) : Prop :=
  ∃ v L, o = .returned v ∧ (Fr n0 L ∧ Q v U.heap) ∧ FrameEnd s o U L C S
/-- a body's contract -/
def Con (l : Launch) (y : MethodName) (bytes : ByteArray) (maxL : Nat) (ret : Option FieldType) (rm : Room) (ws : List Jvm.Cond) (Z : State) (n0 : Nat) (as' : Array Value) (h : Heap) (Q : Option Value → Heap → Prop) : Prop :=
  MetFree l y (head1 (Jvm.Cond.code y bytes maxL ret :: ws) rm) (fun a U => a = as' ∧ Z.Warmed39 U.vm ∧ U.heap = h) (fun _ _ _ _ _ => True) (fun _ U o U' => ∃ v L, o = .returned v ∧ (Fr n0 L ∧ Q v U'.heap) ∧ FrameEnd U o U' L rm.cells rm.slots)
theorem Con.body {y : MethodName} {bytes : ByteArray} {maxL : Nat} {ret : Option FieldType} {rm : Room} {ws : List Jvm.Cond} {as' : Array Value} {Q : Option Value → Heap → Prop} (hp : plainFor y = true)
    (k : ∀ (p : Program) (e : Env) (s : State) (m : MethodId) (below : List Frame) (meth : Method) (c : Code) (s₁ : State), p.tables.exec = Jvm.exec → c.code = bytes → c.maxLocals = maxL → s.vm.findClass y.cls = some m.cls → meth.name = y.name → meth.sig.returnType = ret → meth.locks = false → Z.Warmed39 s.vm →
      Stn p l e rm s m as' below meth c n0 s₁ h 0 0 → Go p e below (PostW s n0 rm.cells rm.slots Q) s₁ (entryFrame m as' maxL)) : Con l y bytes maxL ret rm ws Z n0 as' h Q := by
  refine MetFree.of_bodySF hp hisR ?_
  intro p e s m args below meth c s₁ Bd hml0 hP hK
  obtain ⟨rfl, hZ, hh⟩ := hP
  have e0 : s₁.heap = h := by rw [← hh, Bd.state]; rfl
  exact k p e s m below meth c s₁ Bd.exec Bd.bytes hml0 (findClass_of_methodNamed Bd.named) (name_of_methodNamed Bd.named Bd.method).1 Bd.returns Bd.notSynchronized hZ ⟨e0, [], Fr.nil n0, Stand.of_body Bd⟩
theorem Con.mono {y : MethodName} {bytes : ByteArray} {maxL : Nat} {ret : Option FieldType} {rm : Room} {ws : List Jvm.Cond} {as' : Array Value} {Q Q' : Option Value → Heap → Prop} (hM : Con l y bytes maxL ret rm ws Z n0 as' h Q) (hq : ∀ v h', Q v h' → Q' v h') : Con l y bytes maxL ret rm ws Z n0 as' h Q' := by
  intro p e ha hc hk s m args below hf happ hP hK
  obtain ⟨n, o, h1, h2, h3, v, L, h4, ⟨h5, h6⟩, h7⟩ := hM p e ha hc hk s m args below hf happ hP hK
  exact ⟨n, o, h1, h2, h3, v, L, h4, ⟨h5, hq _ _ h6⟩, h7⟩
/-! a long's comparison -/
theorem lcTlt {a b : Int64} (h : a < b) : ifCond.holds .lt (lcmpW a b) = true ∧ ifCond.holds .ge (lcmpW a b) = false := by
  have q : lcmpW a b < 0 := by rw [lcW]; exact (lc_lt a b).mpr h
  exact ⟨(if0 _ _).trans (tlt q).1, (if0 _ _).trans (tlt q).2.1⟩
theorem lcFlt {a b : Int64} (h : ¬ a < b) : ifCond.holds .lt (lcmpW a b) = false ∧ ifCond.holds .ge (lcmpW a b) = true := by
  have q : ¬ lcmpW a b < 0 := fun z => h ((lc_lt a b).mp (by rw [← lcW]; exact z))
  exact ⟨(if0 _ _).trans (flt q).1, (if0 _ _).trans (flt q).2.1⟩
theorem lcTgt {a b : Int64} (h : b < a) : ifCond.holds .gt (lcmpW a b) = true ∧ ifCond.holds .le (lcmpW a b) = false := by
  have q : 0 < lcmpW a b := by rw [lcW]; exact (lc_gt a b).mpr h
  exact ⟨(if0 _ _).trans (tlt q).2.2.1, (if0 _ _).trans (tlt q).2.2.2⟩
theorem lcFgt {a b : Int64} (h : ¬ b < a) : ifCond.holds .gt (lcmpW a b) = false ∧ ifCond.holds .le (lcmpW a b) = true := by
  have q : ¬ 0 < lcmpW a b := fun z => h ((lc_gt a b).mp (by rw [← lcW]; exact z))
  exact ⟨(if0 _ _).trans (flt q).2.2.1, (if0 _ _).trans (flt q).2.2.2⟩
theorem lcTeq {a b : Int64} (h : a = b) : ifCond.holds .eq (lcmpW a b) = true ∧ ifCond.holds .ne (lcmpW a b) = false := by
  have q : lcmpW a b = 0 := by rw [lcW]; exact (lc_eq a b).mpr h
  exact ⟨(if0 _ _).trans (teq q).1, (if0 _ _).trans (teq q).2⟩
theorem lcFeq {a b : Int64} (h : ¬ a = b) : ifCond.holds .eq (lcmpW a b) = false ∧ ifCond.holds .ne (lcmpW a b) = true := by
  have q : ¬ lcmpW a b = 0 := fun z => h ((lc_eq a b).mp (by rw [← lcW]; exact z))
  exact ⟨(if0 _ _).trans (feq q).1, (if0 _ _).trans (feq q).2⟩
theorem acT {a b : Addr} (h : a = b) : if_acmp.holds .eq (some a) (some b) = true ∧ if_acmp.holds .ne (some a) (some b) = false := by subst h; simp [if_acmp.holds]
theorem acF {a b : Addr} (h : ¬ a = b) : if_acmp.holds .eq (some a) (some b) = false ∧ if_acmp.holds .ne (some a) (some b) = true := by simp [if_acmp.holds, h]
/-! returns -/
theorem goRet {v : Option Value} {Q : Option Value → Heap → Prop} {C S : Nat} (X : Stn p l e R s m args below meth c n0 T h ck sk) (hlk : meth.locks = false) (hv : meth.sig.returnType = none → v = none)
    (hst : ∀ locs fs, Stand p l e R s m args below meth c T locs ck sk → (∀ (f : JFrame) (acts : List Action), f.method = m → f.locked = none → f.entered = [] → (doReturn e (T.setTop f) acts v).1 = T.setFrames fs) → Steps p.tables e below (T.setTop g) (T.setFrames fs))
    (hq : Q v h) (h1 : ck ≤ C) (h2 : sk ≤ S) : Go p e below (PostW s n0 C S Q) T g := by
  obtain ⟨eT, locs, N, Y⟩ := X
  obtain ⟨fs, hr, hrun, hended, hW, hsame⟩ := Y.leave hv hlk
  exact ⟨_, _, hst locs fs Y hr, hrun, hended, _, _, rfl, ⟨N, (by show Q v T.heap; rw [eT]; exact hq)⟩, ⟨_, rfl⟩, hW, hsame.mono h1 h2⟩
theorem goRetI {pc : Nat} {Ls : Array Slot} {z : Int32} {rest : List Value} {Q : Option Value → Heap → Prop} {C S : Nat} (X : Stn p l e R s m args below meth c n0 T h ck sk) (hx : p.tables.exec = Jvm.exec) (hlk : meth.locks = false) (hret : meth.sig.returnType = some .int)
    (hd : decode c.code pc = .ok (.ireturn, 1)) (h1 : ck ≤ C) (h2 : sk ≤ S) (hq : Q (some (.int z)) h) : Go p e below (PostW s n0 C S Q) T (mkF m pc Ls (.int z :: rest)) :=
  goRet X hlk (fun h => by rw [hret] at h; cases h) (fun _ _ Y hr => retI Y hx hret hd hr) hq h1 h2
theorem goRetZ {pc : Nat} {Ls : Array Slot} {z : Int32} {rest : List Value} {Q : Option Value → Heap → Prop} {C S : Nat} (X : Stn p l e R s m args below meth c n0 T h ck sk) (hx : p.tables.exec = Jvm.exec) (hlk : meth.locks = false) (hret : meth.sig.returnType = some .boolean)
    (hd : decode c.code pc = .ok (.ireturn, 1)) (h1 : ck ≤ C) (h2 : sk ≤ S) (hz : z = 0 ∨ z = 1) (hq : Q (some (.int z)) h) : Go p e below (PostW s n0 C S Q) T (mkF m pc Ls (.int z :: rest)) := by
  rcases hz with rfl | rfl
  · exact goRet X hlk (fun h => by rw [hret] at h; cases h) (fun _ _ Y hr => retN Y hx (t := .boolean) hret (by simp) hd hr) hq h1 h2
  · exact goRet X hlk (fun h => by rw [hret] at h; cases h) (fun _ _ Y hr => retN Y hx (t := .boolean) hret (by simp) hd hr) hq h1 h2
theorem goRetV {pc : Nat} {Ls : Array Slot} {Q : Option Value → Heap → Prop} {C S : Nat} (X : Stn p l e R s m args below meth c n0 T h ck sk) (hx : p.tables.exec = Jvm.exec) (hlk : meth.locks = false) (hret : meth.sig.returnType = none)
    (hd : decode c.code pc = .ok (.return_, 1)) (h1 : ck ≤ C) (h2 : sk ≤ S) (hq : Q none h) : Go p e below (PostW s n0 C S Q) T (mkF m pc Ls []) :=
  goRet X hlk (fun _ => rfl) (fun _ _ Y hr => Y.returnOut hx hret hd hr) hq h1 h2
theorem goRetL {pc : Nat} {Ls : Array Slot} {z : Int64} {rest : List Value} {Q : Option Value → Heap → Prop} {C S : Nat} (X : Stn p l e R s m args below meth c n0 T h ck sk) (hx : p.tables.exec = Jvm.exec) (hlk : meth.locks = false) (hret : meth.sig.returnType = some .long)
    (hd : decode c.code pc = .ok (.lreturn, 1)) (h1 : ck ≤ C) (h2 : sk ≤ S) (hq : Q (some (.long z)) h) : Go p e below (PostW s n0 C S Q) T (mkF m pc Ls (.long z :: rest)) :=
  goRet X hlk (fun h => by rw [hret] at h; cases h) (fun _ _ Y hr => by
    jvm_step Y.here [Y.here.top, hx, hd, Y.method', hret, narrow]
    first | (intro acts; rw [hr _ acts rfl rfl rfl]) | rw [hr _ _ rfl rfl rfl]
    exact Steps.refl _) hq h1 h2
theorem goRetA {pc : Nat} {Ls : Array Slot} {z : Addr} {rest : List Value} {t : FieldType} {Q : Option Value → Heap → Prop} {C S : Nat} (X : Stn p l e R s m args below meth c n0 T h ck sk) (hx : p.tables.exec = Jvm.exec) (hlk : meth.locks = false) (hret : meth.sig.returnType = some t) (ht : t.isReference = true)
    (hd : decode c.code pc = .ok (.areturn, 1)) (h1 : ck ≤ C) (h2 : sk ≤ S) (hq : Q (some (.ref z)) h) : Go p e below (PostW s n0 C S Q) T (mkF m pc Ls (.ref z :: rest)) :=
  goRet X hlk (fun h => by rw [hret] at h; cases h) (fun _ _ Y hr => by
    jvm_step Y.here [Y.here.top, hx, hd, Y.method', hret, Value.isRef, ht]
    first | (intro acts; rw [hr _ acts rfl rfl rfl]) | rw [hr _ _ rfl rfl rfl]
    exact Steps.refl _) hq h1 h2
/-! fields, objects -/
theorem goGet (X : Stn p l e R s m args below meth c n0 T h ck sk) (hx : p.tables.exec = Jvm.exec) (hZ : Z.Warmed39 s.vm) {own R0 O n d host : String} {index : Nat} (hown : s.vm.findClass own = some m.cls) (w : (Cond.fieldLink own index R0 n d).before a0 Z = true ∨ (Cond.fieldLinkNest own index R0 n d host).before a0 Z = true) (via : Via Z R0 O n d)
    {a : Addr} {v : Value} (F : Fld Z h a O n d v) {pc : Nat} {ls : Array Slot} {rest : List Value} (hd : decode c.code pc = .ok (.getfield index, 3))
    (k : ∀ T', Stn p l e R s m args below meth c n0 T' h ck sk → Go p e below Post T' (mkF m (pc + 3) ls (v :: rest))) : Go p e below Post T (mkF m pc ls (.ref a :: rest)) := by
  obtain ⟨eT, locs, N, Y⟩ := X
  obtain ⟨T', X', e', st⟩ := getF Y hx hZ hown w via eT F (g := mkF m pc ls (.ref a :: rest)) rfl rfl hd
  exact Go.st st (k T' ⟨e', locs, N, X'⟩)
theorem goPut (X : Stn p l e R s m args below meth c n0 T h ck sk) (hx : p.tables.exec = Jvm.exec) (hZ : Z.Warmed39 s.vm) {own R0 O n d host C : String} {index kk : Nat} {ty : FieldType} (hown : s.vm.findClass own = some m.cls) (w : (Cond.fieldLink own index R0 n d).before a0 Z = true ∨ (Cond.fieldLinkNest own index R0 n d host).before a0 Z = true) (via : Via Z R0 O n d)
    {a : Addr} {v old : Value} (F : Fld Z h a O n d old) (E : Exa Z h a C) (L : (Cond.lays C O n d).before a0 Z = true ∨ ((Cond.laysFinal C O n d).before a0 Z = true ∧ own = O ∧ meth.name = "<init>")) (wi : (Cond.instantiable C kk).before a0 Z = true)
    (hty : parseFieldDescriptor d = some ty) (hn : narrow ty v = v) (hf : fits ty v = true) (ha : n0 ≤ a) {pc : Nat} {ls : Array Slot} {rest : List Value} (hd : decode c.code pc = .ok (.putfield index, 3))
    (k : ∀ T' h', Stn p l e R s m args below meth c n0 T' h' ck sk → Wr h h' a (Jvm.RoadKit.slotOf Z O n d) v → Go p e below Post T' (mkF m (pc + 3) ls rest)) : Go p e below Post T (mkF m pc ls (v :: .ref a :: rest)) := by
  obtain ⟨eT, locs, N, Y⟩ := X
  obtain ⟨T', h', X', e', W, st⟩ := putF Y hx hZ hown w via eT F E L wi hty hn hf (g := mkF m pc ls (v :: .ref a :: rest)) rfl rfl hd
  exact Go.st st (k T' h' ⟨e', _, Fr.snoc X' N ha, X'⟩ W)
theorem goPutN (X : Stn p l e R s m args below meth c n0 T h ck sk) (hx : p.tables.exec = Jvm.exec) (hZ : Z.Warmed39 s.vm) {own R0 O n d C : String} {index kk : Nat} {ty : FieldType} (hown : s.vm.findClass own = some m.cls) (w : (Cond.fieldLink own index R0 n d).before a0 Z = true) (via : Via Z R0 O n d)
    {a : Addr} {v v' old : Value} (F : Fld Z h a O n d old) (E : Exa Z h a C) (L : (Cond.lays C O n d).before a0 Z = true ∨ ((Cond.laysFinal C O n d).before a0 Z = true ∧ own = O ∧ meth.name = "<init>")) (wi : (Cond.instantiable C kk).before a0 Z = true)
    (hty : parseFieldDescriptor d = some ty) (hn : narrow ty v = v') (hf : fits ty v' = true) (ha : n0 ≤ a) {pc : Nat} {ls : Array Slot} {rest : List Value} (hd : decode c.code pc = .ok (.putfield index, 3))
    (k : ∀ T' h', Stn p l e R s m args below meth c n0 T' h' ck sk → Wr h h' a (Jvm.RoadKit.slotOf Z O n d) v' → Go p e below Post T' (mkF m (pc + 3) ls rest)) : Go p e below Post T (mkF m pc ls (v :: .ref a :: rest)) := by
  obtain ⟨eT, locs, N, Y⟩ := X
  obtain ⟨T', h', X', e', W, st⟩ := putFN Y hx hZ hown w via eT F E L wi hty hn hf (g := mkF m pc ls (v :: .ref a :: rest)) rfl rfl hd
  exact Go.st st (k T' h' ⟨e', _, Fr.snoc X' N ha, X'⟩ W)
theorem goNew (X : Stn p l e R s m args below meth c n0 T h ck sk) (hx : p.tables.exec = Jvm.exec) (hZ : Z.Warmed39 s.vm) {own C : String} {index n : Nat} (hown : s.vm.findClass own = some m.cls) (w : (Cond.classLink own index C).before a0 Z = true) (wi : (Cond.instantiable C n).before a0 Z = true) (wz : (Cond.initialized C).before a0 Z = true)
    {pc : Nat} {ls : Array Slot} {st : List Value} (hd : decode c.code pc = .ok (.new index, 3)) (hc : ck + 1 ≤ R.cells) (hl : sk + n ≤ R.slots)
    (k : ∀ T' h' a, a = h.size → Stn p l e R s m args below meth c n0 T' h' (ck + 1) (sk + n) → Ext h h' → Exa Z h' a C → (∀ {O nm d : String} {ty : FieldType}, Laid Z a0 C O nm d → parseFieldDescriptor d = some ty → Fld Z h' a O nm d (defaultValue ty)) → Go p e below Post T' (mkF m (pc + 3) ls (.ref a :: st))) : Go p e below Post T (mkF m pc ls st) := by
  obtain ⟨eT, locs, N, Y⟩ := X
  obtain ⟨T', h', X', e', E, A, D, -, stp⟩ := newO Y hx hZ hown w wi wz eT (g := mkF m pc ls st) rfl hd hc hl
  exact Go.st stp (k T' h' _ rfl ⟨e', locs, N, X'⟩ E A D)
theorem goInit (X : Stn p l e R s m args below meth c n0 T h ck sk) (hx : p.tables.exec = Jvm.exec) (hZ : Z.Warmed39 s.vm) {own : String} {idx : Nat} (hown : s.vm.findClass own = some m.cls) (w1 : (Cond.methodLink own idx Lib.objectInit).before a0 Z = true) (w2 : (Cond.instanceMethod Lib.objectInit).before a0 Z = true)
    (w3 : (Cond.code Lib.objectInit object_method_1_code 1 none).before a0 Z = true) {pc : Nat} {ls : Array Slot} {a : Addr} {rest : List Value} (hsize : ls.size = c.maxLocals) (hd : decode c.code pc = .ok (.invokespecial idx, 3))
    (hf : 1 ≤ R.frames) {W : Nat} (hW : (rest.map fun v => v.category).sum ≤ W) (hl : W + 12 ≤ R.locals)
    (k : ∀ T', Stn p l e R s m args below meth c n0 T' h ck sk → Go p e below Post T' (mkF m (pc + 3) ls rest)) : Go p e below Post T (mkF m pc ls (.ref a :: rest)) := by
  obtain ⟨eT, locs, N, Y⟩ := X
  obtain ⟨T', X', e', st⟩ := initO Y hx hZ hown w1 w2 w3 eT (g := mkF m pc ls (.ref a :: rest)) rfl hsize rfl hd hf (W := W) (by show 2 * 0 + _ ≤ _; omega) hl
  exact Go.st st (k T' ⟨e', locs, N, X'⟩)
theorem Stn.ldcI (X : Stn p l e R s m args below meth c n0 T h ck sk) (hx : p.tables.exec = Jvm.exec) (hZ : Z.Warmed39 s.vm) {own : String} {index : Nat} {v : Int32} (hown : s.vm.findClass own = some m.cls) (w : (Cond.constant own index v).before a0 Z = true)
    {pc : Nat} {ls : Array Slot} {st : List Value} (hd : decode c.code pc = .ok (.ldc index, 2)) {t : State} (k : Steps p.tables e below (T.setTop (mkF m (pc + 2) ls (.int v :: st))) t) : Steps p.tables e below (T.setTop (mkF m pc ls st)) t := by
  obtain ⟨eT, locs, N, Y⟩ := X
  exact Y.ldcInt hx hown (mvT hZ w) (g := mkF m pc ls st) rfl hd t k
theorem Stn.ldcJ (X : Stn p l e R s m args below meth c n0 T h ck sk) (hx : p.tables.exec = Jvm.exec) (hZ : Z.Warmed39 s.vm) {own : String} {index : Nat} {v : Int64} (hown : s.vm.findClass own = some m.cls) (w : (Cond.constantLong own index v).before a0 Z = true)
    {pc : Nat} {ls : Array Slot} {st : List Value} (hd : decode c.code pc = .ok (.ldc2_w index, 3)) {t : State} (k : Steps p.tables e below (T.setTop (mkF m (pc + 3) ls (.long v :: st))) t) : Steps p.tables e below (T.setTop (mkF m pc ls st)) t := by
  obtain ⟨eT, locs, N, Y⟩ := X
  exact Y.ldc2Long hx hown (mvT hZ w) (g := mkF m pc ls st) rfl hd t k
/-! arrays: of kind ty, length n, whose places hold f -/
def Ary (Z : State) (h : Heap) (a : Addr) (ty : FieldType) (n : Nat) (f : Nat → Value) : Prop := ∃ cl : Cell, Arr Z h a cl ty ∧ cl.slots.size = n ∧ ∀ i, i < n → cl.slots[i]? = some (f i)
theorem Ary.lt {a : Addr} {ty : FieldType} {n : Nat} {f : Nat → Value} (A : Ary Z h a ty n f) : a < h.size := by obtain ⟨cl, A, -⟩ := A; exact A.lt
theorem Ary.ext {a : Addr} {ty : FieldType} {n : Nat} {f : Nat → Value} (E : Ext h h') (A : Ary Z h a ty n f) : Ary Z h' a ty n f := by obtain ⟨cl, A, r⟩ := A; exact ⟨cl, A.ext E, r⟩
theorem Ary.other {a b : Addr} {ty : FieldType} {n sl : Nat} {f : Nat → Value} {v : Value} (W : Wr h h' b sl v) (A : Ary Z h a ty n f) (q : a ≠ b) : Ary Z h' a ty n f := by obtain ⟨cl, A, r⟩ := A; exact ⟨cl, A.other W q, r⟩
theorem Ary.keep {a : Addr} {ty : FieldType} {n : Nat} {f : Nat → Value} {ws : List Addr} (A : Ary Z h a ty n f) (K : Keep h h' ws) (q : a ∉ ws) : Ary Z h' a ty n f := by obtain ⟨cl, A, r⟩ := A; exact ⟨cl, ⟨K.2.1 a cl A.1 q, A.2⟩, r⟩
theorem Ary.congr {a : Addr} {ty : FieldType} {n : Nat} {f f' : Nat → Value} (A : Ary Z h a ty n f) (q : ∀ i, i < n → f i = f' i) : Ary Z h a ty n f' := by obtain ⟨cl, A, r1, r2⟩ := A; exact ⟨cl, A, r1, fun i hi => by rw [← q i hi]; exact r2 i hi⟩
theorem Ary.set {a : Addr} {ty : FieldType} {n j : Nat} {f : Nat → Value} {v : Value} (A : Ary Z h a ty n f) (W : Wr h h' a j v) : Ary Z h' a ty n (fun i => if i = j then v else f i) := by
  obtain ⟨cl, A, r1, r2⟩ := A
  have A' := A.same W
  obtain ⟨c1, q1, -, q2, -⟩ := W
  cases q1.symm.trans A.1
  refine ⟨_, A', by rw [sz_set]; exact r1, fun i hi => ?_⟩
  by_cases hij : i = j
  · subst hij
    simp [Cell.setSlot, q2]
  · have : j ≠ i := fun z => hij z.symm
    simp [Cell.setSlot, hij, Array.getElem?_setIfInBounds_ne this, r2 i hi]
theorem Ary.new {k : ClassId} {a : Addr} {ty : FieldType} {z : Int32} (A : Arr Z h a (newA k ty z) ty) : Ary Z h a ty z.toNatClampNeg (fun _ => defaultValue ty) :=
  ⟨_, A, sz_new _ _ _, fun i hi => by simp [newA, hi]⟩
theorem ne_ary {a b : Addr} {C : String} {kk n : Nat} {ty : FieldType} {f : Nat → Value} (F : Exa Z h a C) (wi : (Cond.instantiable C kk).before a0 Z = true) (G : Ary Z h b ty n f) : a ≠ b := by
  obtain ⟨cl, A, -⟩ := G
  exact ne_arr F wi A
theorem goNewA (X : Stn p l e R s m args below meth c n0 T h ck sk) (hx : p.tables.exec = Jvm.exec) (hZ : Z.Warmed39 s.vm) {aty : ArrayType} (w : (Cond.arrayClass (newarray.typeOf aty)).before a0 Z = true)
    {pc : Nat} {ls : Array Slot} {n : Int32} {rest : List Value} (hd : decode c.code pc = .ok (.newarray aty, 2)) (hn : ¬ n < 0) {cap : Nat} (hcap : n.toNatClampNeg ≤ cap) (hb : cap * 8 ≤ 536870912) (hc : ck + 1 ≤ R.cells) (hl : sk + cap ≤ R.slots) {ad : String} (had : "[" ++ (newarray.typeOf aty).toString = ad)
    (k : ∀ T' h' a, a = h.size → Stn p l e R s m args below meth c n0 T' h' (ck + 1) (sk + cap) → Ext h h' → Exa Z h' a ad → Ary Z h' a (newarray.typeOf aty) n.toNatClampNeg (fun _ => defaultValue (newarray.typeOf aty)) → Go p e below Post T' (mkF m (pc + 2) ls (.ref a :: rest))) : Go p e below Post T (mkF m pc ls (.int n :: rest)) := by
  obtain ⟨eT, locs, N, Y⟩ := X
  obtain ⟨T', h', cA, X', e', E, A, Ex, st⟩ := newPE Y hx hZ w eT (g := mkF m pc ls (.int n :: rest)) rfl hd rfl hn hcap hb hc hl had
  exact Go.st st (k T' h' _ rfl ⟨e', locs, N, X'⟩ E Ex (Ary.new A))
theorem goClone (X : Stn p l e R s m args below meth c n0 T h ck sk) (hx : p.tables.exec = Jvm.exec) (hZ : Z.Warmed39 s.vm) {own ad : String} {index : Nat} (hown : s.vm.findClass own = some m.cls)
    (w1 : (Cond.methodLink own index ⟨ad, "clone", "()Ljava/lang/Object;"⟩).before a0 Z = true) (w2 : (Cond.sameMethod ad "java/lang/Object" "clone" "()Ljava/lang/Object;").before a0 Z = true) (w3 : (Cond.native ⟨"java/lang/Object", "clone", "()Ljava/lang/Object;"⟩).before a0 Z = true)
    (w4 : (Cond.instanceMethod ⟨"java/lang/Object", "clone", "()Ljava/lang/Object;"⟩).before a0 Z = true) (w5 : (Cond.selects ad ⟨ad, "clone", "()Ljava/lang/Object;"⟩ ⟨"java/lang/Object", "clone", "()Ljava/lang/Object;"⟩).before a0 Z = true) (w6 : (Cond.castable ad "java/lang/Cloneable").before a0 Z = true)
    {a : Addr} {ty : FieldType} {n : Nat} {f : Nat → Value} (A : Ary Z h a ty n f) (E : Exa Z h a ad) (hfit : ∀ i, i < n → fits ty (f i) = true) {pc : Nat} {ls : Array Slot} {rest : List Value} (hsize : ls.size = c.maxLocals) (hd : decode c.code pc = .ok (.invokevirtual index, 3))
    (hf : 1 ≤ R.frames) {W cap : Nat} (hW : (rest.map fun v => v.category).sum = W) (hl : W + 14 ≤ R.locals) (hcap : n ≤ cap) (hc : ck + 1 ≤ R.cells) (hsl : sk + cap ≤ R.slots)
    (k : ∀ T' h' b, b = h.size → Stn p l e R s m args below meth c n0 T' h' (ck + 1) (sk + cap) → Ext h h' → Exa Z h' b ad → Ary Z h' b ty n f → Go p e below Post T' (mkF m (pc + 3) ls (.ref b :: rest))) : Go p e below Post T (mkF m pc ls (.ref a :: rest)) := by
  obtain ⟨eT, locs, N, Y⟩ := X
  obtain ⟨cl, A, r1, r2⟩ := A
  have FC : FitC Z cl := fitC_of A fun i hi v hv => by
    rw [r2 i (r1 ▸ hi)] at hv
    cases hv
    exact hfit i (r1 ▸ hi)
  obtain ⟨T', h', X', e', Ex, A', E', st⟩ := cloneA Y hx hZ hown w1 w2 w3 w4 w5 w6 eT A E FC (g := mkF m pc ls (.ref a :: rest)) rfl hsize rfl hd hf (W := W) (cap := cap) (by show 2 * 0 + _ ≤ _; omega) hl (by rw [r1]; exact hcap) hc hsl
  exact Go.st st (k T' h' _ rfl ⟨e', locs, N, X'⟩ Ex E' ⟨_, A', r1, r2⟩)
theorem goCast (X : Stn p l e R s m args below meth c n0 T h ck sk) (hx : p.tables.exec = Jvm.exec) (hZ : Z.Warmed39 s.vm) {own K : String} {index : Nat} (hown : s.vm.findClass own = some m.cls) (w : (Cond.classLink own index K).before a0 Z = true) {a : Addr} (F : Ins Z h a K true)
    {pc : Nat} {ls : Array Slot} {rest : List Value} (hd : decode c.code pc = .ok (.checkcast index, 3)) (k : ∀ T', Stn p l e R s m args below meth c n0 T' h ck sk → Go p e below Post T' (mkF m (pc + 3) ls (.ref a :: rest))) : Go p e below Post T (mkF m pc ls (.ref a :: rest)) := by
  obtain ⟨eT, locs, N, Y⟩ := X
  obtain ⟨T', X', e', st⟩ := castY Y hx hZ hown w eT F (g := mkF m pc ls (.ref a :: rest)) rfl rfl hd
  exact Go.st st (k T' ⟨e', locs, N, X'⟩)
theorem goLen (X : Stn p l e R s m args below meth c n0 T h ck sk) (hx : p.tables.exec = Jvm.exec) (hZ : Z.Warmed39 s.vm) {a : Addr} {ty : FieldType} {n : Nat} {f : Nat → Value} (A : Ary Z h a ty n f) {pc : Nat} {ls : Array Slot} {rest : List Value} (hd : decode c.code pc = .ok (.arraylength, 1))
    (k : Go p e below Post T (mkF m (pc + 1) ls (.int n.toInt32 :: rest))) : Go p e below Post T (mkF m pc ls (.ref a :: rest)) := by
  obtain ⟨eT, locs, N, Y⟩ := X
  obtain ⟨cl, A, r1, -⟩ := A
  subst r1
  exact Go.st (fun t q => Y.arraylength hx (by rw [eT]; exact A.1) (State.isArrayOf_alike hZ.alike A.2.1) (g := mkF m pc ls (.ref a :: rest)) rfl rfl hd t q) k
theorem goLdI (X : Stn p l e R s m args below meth c n0 T h ck sk) (hx : p.tables.exec = Jvm.exec) (hZ : Z.Warmed39 s.vm) {a : Addr} {n : Nat} {f : Nat → Int32} (A : Ary Z h a .int n (fun i => .int (f i))) {j : Int32} (hj : ¬ (j < 0 ∨ n ≤ j.toNatClampNeg)) {pc : Nat} {ls : Array Slot} {rest : List Value} (hd : decode c.code pc = .ok (.iaload, 1))
    (k : Go p e below Post T (mkF m (pc + 1) ls (.int (f j.toNatClampNeg) :: rest))) : Go p e below Post T (mkF m pc ls (.int j :: .ref a :: rest)) := by
  obtain ⟨eT, locs, N, Y⟩ := X
  obtain ⟨cl, A, r1, r2⟩ := A
  subst r1
  exact Go.st (fun t q => Y.iaload hx (j := j) (v := .int (f j.toNatClampNeg)) (by rw [eT]; exact A.1) (State.isArrayOf_alike hZ.alike A.2.1) A.2.2 hj (r2 _ (by omega)) (g := mkF m pc ls (.int j :: .ref a :: rest)) rfl rfl hd t q) k
theorem goLdJ (X : Stn p l e R s m args below meth c n0 T h ck sk) (hx : p.tables.exec = Jvm.exec) (hZ : Z.Warmed39 s.vm) {a : Addr} {n : Nat} {f : Nat → Int64} (A : Ary Z h a .long n (fun i => .long (f i))) {j : Int32} (hj : ¬ (j < 0 ∨ n ≤ j.toNatClampNeg)) {pc : Nat} {ls : Array Slot} {rest : List Value} (hd : decode c.code pc = .ok (.laload, 1))
    (k : Go p e below Post T (mkF m (pc + 1) ls (.long (f j.toNatClampNeg) :: rest))) : Go p e below Post T (mkF m pc ls (.int j :: .ref a :: rest)) := by
  obtain ⟨eT, locs, N, Y⟩ := X
  obtain ⟨cl, A, r1, r2⟩ := A
  subst r1
  exact Go.st (fun t q => Y.laload hx (j := j) (v := .long (f j.toNatClampNeg)) (by rw [eT]; exact A.1) (State.isArrayOf_alike hZ.alike A.2.1) A.2.2 hj (r2 _ (by omega)) (g := mkF m pc ls (.int j :: .ref a :: rest)) rfl rfl hd t q) k
theorem goStI (X : Stn p l e R s m args below meth c n0 T h ck sk) (hx : p.tables.exec = Jvm.exec) (hZ : Z.Warmed39 s.vm) {a : Addr} {n : Nat} {f : Nat → Int32} (A : Ary Z h a .int n (fun i => .int (f i))) {j x : Int32} (hj : ¬ (j < 0 ∨ n ≤ j.toNatClampNeg)) (ha : n0 ≤ a) {pc : Nat} {ls : Array Slot} {rest : List Value} (hd : decode c.code pc = .ok (.iastore, 1))
    (k : ∀ T' h', Stn p l e R s m args below meth c n0 T' h' ck sk → Wr h h' a j.toNatClampNeg (.int x) → Ary Z h' a .int n (fun i => .int (if i = j.toNatClampNeg then x else f i)) → Go p e below Post T' (mkF m (pc + 1) ls rest)) : Go p e below Post T (mkF m pc ls (.int x :: .int j :: .ref a :: rest)) := by
  obtain ⟨eT, locs, N, Y⟩ := X
  have A0 := A
  obtain ⟨cl, A, r1, r2⟩ := A
  subst r1
  obtain ⟨T', h', X', e', W, st⟩ := stI Y hx hZ eT A hj (g := mkF m pc ls (.int x :: .int j :: .ref a :: rest)) rfl rfl hd
  exact Go.st st (k T' h' ⟨e', _, Fr.snoc X' N ha, X'⟩ W ((A0.set W).congr fun i _ => by split <;> rfl))
theorem goStJ (X : Stn p l e R s m args below meth c n0 T h ck sk) (hx : p.tables.exec = Jvm.exec) (hZ : Z.Warmed39 s.vm) {a : Addr} {n : Nat} {f : Nat → Int64} (A : Ary Z h a .long n (fun i => .long (f i))) {j : Int32} {x : Int64} (hj : ¬ (j < 0 ∨ n ≤ j.toNatClampNeg)) (ha : n0 ≤ a) {pc : Nat} {ls : Array Slot} {rest : List Value} (hd : decode c.code pc = .ok (.lastore, 1))
    (k : ∀ T' h', Stn p l e R s m args below meth c n0 T' h' ck sk → Wr h h' a j.toNatClampNeg (.long x) → Ary Z h' a .long n (fun i => .long (if i = j.toNatClampNeg then x else f i)) → Go p e below Post T' (mkF m (pc + 1) ls rest)) : Go p e below Post T (mkF m pc ls (.long x :: .int j :: .ref a :: rest)) := by
  obtain ⟨eT, locs, N, Y⟩ := X
  have A0 := A
  obtain ⟨cl, A, r1, r2⟩ := A
  subst r1
  obtain ⟨T', h', X', e', W, st⟩ := stJ Y hx hZ eT A hj (g := mkF m pc ls (.long x :: .int j :: .ref a :: rest)) rfl rfl hd
  exact Go.st st (k T' h' ⟨e', _, Fr.snoc X' N ha, X'⟩ W ((A0.set W).congr fun i _ => by split <;> rfl))
/-! calls -/
theorem goStatic (X : Stn p l e R s m args below meth c n0 T h ck sk) (hx : p.tables.exec = Jvm.exec) (hZ : Z.Warmed39 s.vm) {own : String} {index : Nat} {y : MethodName} {bytes : ByteArray} {maxL : Nat} {ret : Option FieldType} {rm : Room} {as' : Array Value} {Q : Option Value → Heap → Prop}
    (hown : s.vm.findClass own = some m.cls) (w1 : (Cond.methodLink own index y).before a0 Z = true) (w2 : (Cond.static y).before a0 Z = true) (w3 : (Cond.initialized y.cls).before a0 Z = true) (w4 : (Cond.code y bytes maxL ret).before a0 Z = true)
    (hy : y.cls ≠ "java/lang/invoke/MethodHandle" ∧ y.cls ≠ "java/lang/invoke/VarHandle") (hM : Con l y bytes maxL ret rm [] Z n0 as' h Q) (W : Nat) (hf : rm.frames + 1 ≤ R.frames) (hl : W + (maxL + 11) + rm.locals ≤ R.locals)
    {pc : Nat} {ls : Array Slot} {stk : List Value} (hsize : ls.size = c.maxLocals) (argsL rest : List Value) (hlen : ∀ sig, parseMethodDescriptor y.desc = some sig → argsL.length = sig.parameters.length) (has : argsL.toArray = as') (hstk : stk = argsL.reverse ++ rest) (hW : (rest.map fun v => v.category).sum = W)
    (hd : decode c.code pc = .ok (.invokestatic index, 3)) (hc : ck + rm.cells ≤ R.cells) (hs : sk + rm.slots ≤ R.slots)
    (k : ∀ v T' h', Stn p l e R s m args below meth c n0 T' h' (ck + rm.cells) (sk + rm.slots) → Q v h' → Go p e below Post T' (mkF m (pc + 3) ls (v.toList ++ rest))) : Go p e below Post T (mkF m pc ls stk) := by
  obtain ⟨eT, locs, N, Y⟩ := X
  obtain ⟨v, _, ⟨T', L', k', n'⟩, -, X', ⟨Lc, ⟨hN, hQ⟩, l', y', z'⟩, st⟩ := Jvm.LawKit.callS Y hx (y := y) hown (mvT hZ w1) (mvT hZ w2) (mvT hZ w3) (mvT hZ w4) hy (backOf (W := W) (Q := fun v h' L => Fr n0 L ∧ Q v h') hM hZ w4 w3 hf hl) (g := mkF m pc ls stk) rfl hsize (argsL := argsL) (rest := rest) hlen hstk (by show 2 * 0 + _ ≤ _; omega) hd (fun _ _ => ⟨has, eT, hc, hs⟩)
  dsimp only [Pt.U, Pt.locs, Pt.cells, Pt.slots] at X' l' y' z' st hQ
  subst l' y' z'
  exact Go.st st (k v T' T'.heap ⟨rfl, _, Fr.app N hN, X'⟩ hQ)
theorem goCtor (X : Stn p l e R s m args below meth c n0 T h ck sk) (hx : p.tables.exec = Jvm.exec) (hZ : Z.Warmed39 s.vm) {own : String} {index : Nat} {y : MethodName} {bytes : ByteArray} {maxL : Nat} {rm : Room} {as' : Array Value} {Q : Option Value → Heap → Prop} (hy1 : y.name = "<init>")
    (hown : s.vm.findClass own = some m.cls) (w1 : (Cond.methodLink own index y).before a0 Z = true) (w2 : (Cond.instanceMethod y).before a0 Z = true) (w3 : (Cond.initialized y.cls).before a0 Z = true) (w4 : (Cond.code y bytes maxL none).before a0 Z = true)
    (hy : y.cls ≠ "java/lang/invoke/MethodHandle" ∧ y.cls ≠ "java/lang/invoke/VarHandle") (hM : Con l y bytes maxL none rm [] Z n0 as' h Q) (W : Nat) (hf : rm.frames + 1 ≤ R.frames) (hl : W + (maxL + 11) + rm.locals ≤ R.locals)
    {pc : Nat} {ls : Array Slot} {stk : List Value} (hsize : ls.size = c.maxLocals) (a : Addr) (argsL rest : List Value) (hlen : ∀ sig, parseMethodDescriptor y.desc = some sig → argsL.length = sig.parameters.length) (has : (.ref a :: argsL).toArray = as') (hstk : stk = argsL.reverse ++ .ref a :: rest) (hW : (rest.map fun v => v.category).sum = W)
    (hd : decode c.code pc = .ok (.invokespecial index, 3)) (hc : ck + rm.cells ≤ R.cells) (hs : sk + rm.slots ≤ R.slots)
    (k : ∀ v T' h', Stn p l e R s m args below meth c n0 T' h' (ck + rm.cells) (sk + rm.slots) → Q v h' → Go p e below Post T' (mkF m (pc + 3) ls (v.toList ++ rest))) : Go p e below Post T (mkF m pc ls stk) := by
  obtain ⟨eT, locs, N, Y⟩ := X
  obtain ⟨v, _, ⟨T', L', k', n'⟩, -, X', ⟨Lc, ⟨hN, hQ⟩, l', y', z'⟩, st⟩ := Y.specialBack hx (y := y) hy1 hown (mvT hZ w1) (mvT hZ w2) (mvT hZ w4) hy (backOf (W := W) (Q := fun v h' L => Fr n0 L ∧ Q v h') hM hZ w4 w3 hf hl) (g := mkF m pc ls stk) rfl hsize (Steps.refl _) (a := a) (argsL := argsL) (rest := rest) hlen hstk (by show 2 * 0 + _ ≤ _; omega) hd (fun _ _ => ⟨has, eT, hc, hs⟩)
  dsimp only [Pt.U, Pt.locs, Pt.cells, Pt.slots] at X' l' y' z' st hQ
  subst l' y' z'
  exact Go.st (fun t q => st.trans q) (k v T' T'.heap ⟨rfl, _, Fr.app N hN, X'⟩ hQ)
theorem goVirt (X : Stn p l e R s m args below meth c n0 T h ck sk) (hx : p.tables.exec = Jvm.exec) (hZ : Z.Warmed39 s.vm) {own C : String} {index : Nat} {y z : MethodName} {bytes : ByteArray} {maxL : Nat} {ret : Option FieldType} {rm : Room} {as' : Array Value} {Q : Option Value → Heap → Prop}
    (hown : s.vm.findClass own = some m.cls) (w1 : (Cond.methodLink own index y).before a0 Z = true) (w2 : (Cond.declares y).before a0 Z = true) (nf : NotFace s y) (w5 : (Cond.selects C y z).before a0 Z = true) (w6 : (Cond.instanceMethod z).before a0 Z = true) (w3 : (Cond.initialized z.cls).before a0 Z = true) (w4 : (Cond.code z bytes maxL ret).before a0 Z = true)
    (hy : y.cls ≠ "java/lang/invoke/MethodHandle" ∧ y.cls ≠ "java/lang/invoke/VarHandle") {a : Addr} (E : Exa Z h a C) (hM : Con l z bytes maxL ret rm [] Z n0 as' h Q) (W : Nat) (hf : rm.frames + 1 ≤ R.frames) (hl : W + (maxL + 11) + rm.locals ≤ R.locals)
    {pc : Nat} {ls : Array Slot} {stk : List Value} (hsize : ls.size = c.maxLocals) (argsL rest : List Value) (hlen : ∀ sig, parseMethodDescriptor y.desc = some sig → argsL.length = sig.parameters.length) (has : (.ref a :: argsL).toArray = as') (hstk : stk = argsL.reverse ++ .ref a :: rest) (hW : (rest.map fun v => v.category).sum = W)
    (hd : decode c.code pc = .ok (.invokevirtual index, 3)) (hc : ck + rm.cells ≤ R.cells) (hs : sk + rm.slots ≤ R.slots)
    (k : ∀ v T' h', Stn p l e R s m args below meth c n0 T' h' (ck + rm.cells) (sk + rm.slots) → Q v h' → Go p e below Post T' (mkF m (pc + 3) ls (v.toList ++ rest))) : Go p e below Post T (mkF m pc ls stk) := by
  obtain ⟨eT, locs, N, Y⟩ := X
  obtain ⟨cq, kq, q1, q2, q3⟩ := isOf hZ eT E
  obtain ⟨v, _, ⟨T', L', k', n'⟩, -, X', ⟨Lc, ⟨hN, hQ⟩, l', y', z'⟩, st⟩ := Y.virtualBack hx (y := y) (z := z) hown (mvT hZ w1) (mvT hZ w2) nf (mvT hZ w5) (mvT hZ w6) hy (backOf (W := W) (Q := fun v h' L => Fr n0 L ∧ Q v h') hM hZ w4 w3 hf hl) q1 q3 (g := mkF m pc ls stk) rfl hsize (Steps.refl _) (argsL := argsL) (rest := rest) hlen hstk (by show 2 * 0 + _ ≤ _; omega) hd (fun _ _ => ⟨has, eT, hc, hs⟩)
  dsimp only [Pt.U, Pt.locs, Pt.cells, Pt.slots] at X' l' y' z' st hQ
  subst l' y' z'
  exact Go.st (fun t q => st.trans q) (k v T' T'.heap ⟨rfl, _, Fr.app N hN, X'⟩ hQ)
theorem goVirtS (X : Stn p l e R s m args below meth c n0 T h ck sk) (hx : p.tables.exec = Jvm.exec) (hZ : Z.Warmed39 s.vm) {own : String} {index : Nat} {y : MethodName} {bytes : ByteArray} {maxL : Nat} {ret : Option FieldType} {rm : Room} {as' : Array Value} {Q : Option Value → Heap → Prop}
    (hown : s.vm.findClass own = some m.cls) (w1 : (Cond.methodLink own index y).before a0 Z = true) (w2 : (Cond.declares y).before a0 Z = true) (w5 : (Cond.selects y.cls y y).before a0 Z = true) (w6 : (Cond.instanceMethod y).before a0 Z = true) (w3 : (Cond.initialized y.cls).before a0 Z = true) (w4 : (Cond.code y bytes maxL ret).before a0 Z = true)
    (hy : y.cls ≠ "java/lang/invoke/MethodHandle" ∧ y.cls ≠ "java/lang/invoke/VarHandle") {a : Addr} (E : Exa Z h a y.cls) (hM : Con l y bytes maxL ret rm [] Z n0 as' h Q) (W : Nat) (hf : rm.frames + 1 ≤ R.frames) (hl : W + (maxL + 11) + rm.locals ≤ R.locals)
    {pc : Nat} {ls : Array Slot} {stk : List Value} (hsize : ls.size = c.maxLocals) (argsL rest : List Value) (hlen : ∀ sig, parseMethodDescriptor y.desc = some sig → argsL.length = sig.parameters.length) (has : (.ref a :: argsL).toArray = as') (hstk : stk = argsL.reverse ++ .ref a :: rest) (hW : (rest.map fun v => v.category).sum = W)
    (hd : decode c.code pc = .ok (.invokevirtual index, 3)) (hc : ck + rm.cells ≤ R.cells) (hs : sk + rm.slots ≤ R.slots)
    (k : ∀ v T' h', Stn p l e R s m args below meth c n0 T' h' (ck + rm.cells) (sk + rm.slots) → Q v h' → Go p e below Post T' (mkF m (pc + 3) ls (v.toList ++ rest))) : Go p e below Post T (mkF m pc ls stk) :=
  goVirt X hx hZ hown w1 w2 (notFace_of_selects (args := #[]) (mvT hZ w5)) w5 w6 w3 w4 hy E hM W hf hl hsize argsL rest hlen has hstk hW hd hc hs k
theorem goPriv (X : Stn p l e R s m args below meth c n0 T h ck sk) (hx : p.tables.exec = Jvm.exec) (hZ : Z.Warmed39 s.vm) {own C : String} {index : Nat} {y : MethodName} {bytes : ByteArray} {maxL : Nat} {ret : Option FieldType} {rm : Room} {as' : Array Value} {Q : Option Value → Heap → Prop}
    (hown : s.vm.findClass own = some m.cls) (w1 : (Cond.methodLink own index y).before a0 Z = true) (w6 : (Cond.instanceMethod y).before a0 Z = true) {kk : Nat} (wi : (Cond.instantiable y.cls kk).before a0 Z = true) (w7 : (Cond.privateMethod y).before a0 Z = true) (w3 : (Cond.initialized y.cls).before a0 Z = true) (w4 : (Cond.code y bytes maxL ret).before a0 Z = true)
    (hy : y.cls ≠ "java/lang/invoke/MethodHandle" ∧ y.cls ≠ "java/lang/invoke/VarHandle") {a : Addr} (E : Exa Z h a C) (hM : Con l y bytes maxL ret rm [] Z n0 as' h Q) (W : Nat) (hf : rm.frames + 1 ≤ R.frames) (hl : W + (maxL + 11) + rm.locals ≤ R.locals)
    {pc : Nat} {ls : Array Slot} {stk : List Value} (hsize : ls.size = c.maxLocals) (argsL rest : List Value) (hlen : ∀ sig, parseMethodDescriptor y.desc = some sig → argsL.length = sig.parameters.length) (has : (.ref a :: argsL).toArray = as') (hstk : stk = argsL.reverse ++ .ref a :: rest) (hW : (rest.map fun v => v.category).sum = W)
    (hd : decode c.code pc = .ok (.invokevirtual index, 3)) (hc : ck + rm.cells ≤ R.cells) (hs : sk + rm.slots ≤ R.slots)
    (k : ∀ v T' h', Stn p l e R s m args below meth c n0 T' h' (ck + rm.cells) (sk + rm.slots) → Q v h' → Go p e below Post T' (mkF m (pc + 3) ls (v.toList ++ rest))) : Go p e below Post T (mkF m pc ls stk) := by
  obtain ⟨eT, locs, N, Y⟩ := X
  obtain ⟨cq, q1, q2⟩ := E.cell
  have hi : (Cond.instantiable y.cls kk).before args s = true := mvT hZ wi
  obtain ⟨ci, ki, i1, i2, -, i4, -⟩ := Cond.instantiable_spec hi
  have i7 : ki.isInterface = false := by
    cases q : ki.isInterface
    · rfl
    · rw [q] at i4; cases i4
  have hsel : (Cond.selects y.cls y y).before args s = true := selects_self_of_private i1 i2 i7 (Cond.privateMethod_at (mvP hZ w7 (args := #[]))) (mvT hZ w6) hy
  obtain ⟨v, _, ⟨T', L', k', n'⟩, -, X', ⟨Lc, ⟨hN, hQ⟩, l', y', z'⟩, st⟩ := Y.privateBack hx (y := y) hown (mvT hZ w1) (mvT hZ w6) hsel (Cond.privateMethod_at (mvP hZ w7 (args := #[]))) (mvT hZ w4) hy (backOf (W := W) (Q := fun v h' L => Fr n0 L ∧ Q v h') hM hZ w4 w3 hf hl) (g := mkF m pc ls stk) rfl hsize (Steps.refl _) (a := a) (by rw [eT]; exact q1) q2 (argsL := argsL) (rest := rest) hlen hstk (by show 2 * 0 + _ ≤ _; omega) hd (fun _ _ => ⟨has, eT, hc, hs⟩)
  dsimp only [Pt.U, Pt.locs, Pt.cells, Pt.slots] at X' l' y' z' st hQ
  subst l' y' z'
  exact Go.st (fun t q => st.trans q) (k v T' T'.heap ⟨rfl, _, Fr.app N hN, X'⟩ hQ)
theorem own_i32_rem (x y : Int32) : x - (x / y) * y = x % y := by
  apply Int32.toInt_inj.mp
  rw [Int32.toInt_mod, Int32.toInt_sub, Int32.toInt_mul, Int32.toInt_div]
  have hb : x.toInt.tmod y.toInt = (x.toInt.tmod y.toInt).bmod (2 ^ 32) := by
    rw [← Int32.toInt_mod]
    exact (Int32.toInt_bmod _).symm
  rw [hb, Int.tmod_def]
  simp [Int.mul_comm]
theorem own_irem {T target : State} (X : At T m c below) (hx : p.tables.exec = Jvm.exec) {pc : Nat} {ls : Array Slot} {x y : Int32} {rest : List Value} (hd : decode c.code pc = .ok (.irem, 1)) (hy : y ≠ 0)
    (hr : Steps p.tables e below (T.setTop (mkF m (pc + 1) ls (.int (x % y) :: rest))) target) : Steps p.tables e below (T.setTop (mkF m pc ls (.int y :: .int x :: rest))) target :=
  XS.irem X hx (g := mkF m pc ls (.int y :: .int x :: rest)) rfl hd rfl hy (by rw [own_i32_rem]; exact hr)
end OwnLayer
section OwnLayer2
variable {p : Program} {l : Launch} {e : Env} {R : Room} {s : State} {m : MethodId} {args : Array Value} {below : List Frame} {meth : Method} {c : Code} {T T' : State} {h h' : Heap} {n0 ck sk : Nat} {Z : State} {a0 : Array Value} {Post : Outcome → State → Prop}
theorem sta_keep {C n d : String} {v : Value} {ws : List Addr} (F : Sta Z h C n d v) (K : Keep h h' ws) (q : ∀ x ∈ ws, ∃ C', Exa Z h x C') : Sta Z h' C n d v := by
  obtain ⟨cf, i, k, f, st, cell, h1, h2, h3, h4, h5, h6, h7⟩ := F
  refine ⟨cf, i, k, f, st, cell, h1, h2, h3, h4, K.2.1 st cell h5 fun z => ?_, h6, h7⟩
  obtain ⟨C', cell', k', e1, -, -, e4, -⟩ := q st z
  cases h5.symm.trans e1
  rw [h6] at e4
  cases e4
theorem goGetS (X : Stn p l e R s m args below meth c n0 T h ck sk) (hx : p.tables.exec = Jvm.exec) (hZ : Z.Warmed39 s.vm) {own R0 O n d host : String} {index : Nat} (hown : s.vm.findClass own = some m.cls) (w : (Cond.fieldLink own index R0 n d).before a0 Z = true ∨ (Cond.fieldLinkNest own index R0 n d host).before a0 Z = true) (via : Via Z R0 O n d)
    {v : Value} (F : Sta Z h O n d v) {pc : Nat} {ls : Array Slot} {st : List Value} (hd : decode c.code pc = .ok (.getstatic index, 3))
    (k : ∀ T', Stn p l e R s m args below meth c n0 T' h ck sk → Go p e below Post T' (mkF m (pc + 3) ls (v :: st))) : Go p e below Post T (mkF m pc ls st) := by
  obtain ⟨eT, locs, N, Y⟩ := X
  obtain ⟨T', X', e', stp⟩ := getS2 Y hx hZ hown w via eT F (g := mkF m pc ls st) rfl hd
  exact Go.st stp (k T' ⟨e', locs, N, X'⟩)
theorem goInstY (X : Stn p l e R s m args below meth c n0 T h ck sk) (hx : p.tables.exec = Jvm.exec) (hZ : Z.Warmed39 s.vm) {own K : String} {index : Nat} (hown : s.vm.findClass own = some m.cls) (w : (Cond.classLink own index K).before a0 Z = true) {a : Addr} (F : Ins Z h a K true)
    {pc : Nat} {ls : Array Slot} {rest : List Value} (hd : decode c.code pc = .ok (.instanceof index, 3)) (k : ∀ T', Stn p l e R s m args below meth c n0 T' h ck sk → Go p e below Post T' (mkF m (pc + 3) ls (.int 1 :: rest))) : Go p e below Post T (mkF m pc ls (.ref a :: rest)) := by
  obtain ⟨eT, locs, N, Y⟩ := X
  obtain ⟨T', X', e', st⟩ := instY Y hx hZ hown w eT F (g := mkF m pc ls (.ref a :: rest)) rfl rfl hd
  exact Go.st st (k T' ⟨e', locs, N, X'⟩)
theorem goInstNo (X : Stn p l e R s m args below meth c n0 T h ck sk) (hx : p.tables.exec = Jvm.exec) (hZ : Z.Warmed39 s.vm) {own K C : String} {index : Nat} (hown : s.vm.findClass own = some m.cls) (w : (Cond.classLink own index K).before a0 Z = true) {a : Addr} (E : Exa Z h a C) (F : ∃ c t, Z.vm.findClass C = some c ∧ Z.vm.findClass K = some t ∧ Z.vm.assignable c t = false)
    {pc : Nat} {ls : Array Slot} {rest : List Value} (hd : decode c.code pc = .ok (.instanceof index, 3)) (k : ∀ T', Stn p l e R s m args below meth c n0 T' h ck sk → Go p e below Post T' (mkF m (pc + 3) ls (.int 0 :: rest))) : Go p e below Post T (mkF m pc ls (.ref a :: rest)) := by
  obtain ⟨eT, locs, N, Y⟩ := X
  obtain ⟨T', X', e', st⟩ := instNo Y hx hZ hown w eT E F (g := mkF m pc ls (.ref a :: rest)) rfl rfl hd
  exact Go.st st (k T' ⟨e', locs, N, X'⟩)
theorem goInstNull (X : Stn p l e R s m args below meth c n0 T h ck sk) (hx : p.tables.exec = Jvm.exec) {index : Nat}
    {pc : Nat} {ls : Array Slot} {rest : List Value} (hd : decode c.code pc = .ok (.instanceof index, 3)) (k : Go p e below Post T (mkF m (pc + 3) ls (.int 0 :: rest))) : Go p e below Post T (mkF m pc ls (.null :: rest)) := by
  obtain ⟨eT, locs, N, Y⟩ := X
  exact Go.st (fun t q => Y.instanceofNull hx (g := mkF m pc ls (.null :: rest)) rfl rfl hd t q) k
/-- no object of the class C (whose superclasses are Object's chain) is one of K -/
theorem ns_root {O K : String} {kk : Nat} (w : (Cond.noSuperclass O).before a0 Z = true) (wk : (Cond.instantiable K kk).before a0 Z = true) (hn : O ≠ K) : NS Z O K := by
  obtain ⟨c, k, h1, h2, h3, -, -⟩ := Cond.noSuperclass_spec w
  obtain ⟨t, kt, g1, g2, -⟩ := Cond.instantiable_spec wk
  have ne := ids_ne h1 g1 hn
  refine ⟨c, t, h1, g1, fun fuel => ?_⟩
  cases fuel with
  | zero => rfl
  | succ f => simp [Vm.isSubclassAux, ne, h2, h3]
theorem ns_no {C S K : String} {kk : Nat} (w : (Cond.superclass C S).before a0 Z = true) (wk : (Cond.instantiable K kk).before a0 Z = true) (n : NS Z C K) (hn : C ≠ K) : ∃ c t, Z.vm.findClass C = some c ∧ Z.vm.findClass K = some t ∧ Z.vm.assignable c t = false := by
  obtain ⟨c, t, h0, g0, n3⟩ := n
  obtain ⟨p, k, kp, h1, h2, h3, h4, h5, -, h7⟩ := Cond.superclass_spec h0 w
  obtain ⟨t', k', g1, g2, g5, g6, -⟩ := Cond.instantiable_spec wk
  cases g0.symm.trans g1
  have g7 : k'.isInterface = false := by
    cases q : k'.isInterface
    · rfl
    · rw [q] at g6; cases g6
  have ne := ids_ne h0 g0 hn
  refine ⟨c, t, h0, g0, ?_⟩
  show Z.vm.assignableAux (255 + 1) c t = false
  simp [Vm.assignableAux, ne, h2, g2, h5, g5, g7, Vm.isSubclass, n3]
/-! arrays of references -/
def AO (Z : State) (h : Heap) (a : Addr) (C : String) : Prop := ∃ cl : Cell, h[a]? = some cl ∧ Ovr Z cl.cls C
theorem AO.ext {a : Addr} {C : String} (E : Ext h h') (F : AO Z h a C) : AO Z h' a C := by obtain ⟨cl, h1, h2⟩ := F; exact ⟨cl, E.2 _ _ h1, h2⟩
theorem AO.wr {a b : Addr} {C : String} {sl : Nat} {v : Value} (W : Wr h h' b sl v) (F : AO Z h a C) : AO Z h' a C := by
  obtain ⟨cl, h1, h2⟩ := F
  obtain ⟨cl', g1, g2, -⟩ := wr_at W h1
  exact ⟨cl', g1, by rw [g2]; exact h2⟩
theorem AO.keep {a : Addr} {C : String} {ws : List Addr} (F : AO Z h a C) (K : Keep h h' ws) : AO Z h' a C := by
  obtain ⟨cl, h1, h2⟩ := F
  obtain ⟨cl', g1, g2, -⟩ := K.2.2 a cl h1
  exact ⟨cl', g1, by rw [g2]; exact h2⟩
theorem goNewR (X : Stn p l e R s m args below meth c n0 T h ck sk) (hx : p.tables.exec = Jvm.exec) (hZ : Z.Warmed39 s.vm) {own C : String} {index : Nat} (hown : s.vm.findClass own = some m.cls) (w1 : (Cond.classLink own index C).before a0 Z = true) (w2 : (Cond.arrayOver (.object C)).before a0 Z = true)
    {pc : Nat} {ls : Array Slot} {n : Int32} {rest : List Value} (hd : decode c.code pc = .ok (.anewarray index, 3)) (hn : ¬ n < 0) {cap : Nat} (hcap : n.toNatClampNeg ≤ cap) (hb : cap * 8 ≤ 536870912) (hc : ck + 1 ≤ R.cells) (hl : sk + cap ≤ R.slots) {ad : String} (had : "[" ++ (FieldType.object C).toString = ad)
    (k : ∀ T' h' a, a = h.size → Stn p l e R s m args below meth c n0 T' h' (ck + 1) (sk + cap) → Ext h h' → Exa Z h' a ad → Ary Z h' a (.object C) n.toNatClampNeg (fun _ => .null) → AO Z h' a C → Go p e below Post T' (mkF m (pc + 3) ls (.ref a :: rest))) : Go p e below Post T (mkF m pc ls (.int n :: rest)) := by
  obtain ⟨eT, locs, N, Y⟩ := X
  obtain ⟨T', h', cA, X', e', E, A, Ex, O, st⟩ := newRE Y hx hZ hown w1 w2 eT (g := mkF m pc ls (.int n :: rest)) rfl hd rfl hn hcap hb hc hl had
  exact Go.st st (k T' h' _ rfl ⟨e', locs, N, X'⟩ E Ex (Ary.new A) ⟨_, A.1, O⟩)
theorem goLdR (X : Stn p l e R s m args below meth c n0 T h ck sk) (hx : p.tables.exec = Jvm.exec) (hZ : Z.Warmed39 s.vm) {a : Addr} {ty : FieldType} {n : Nat} {f : Nat → Value} (A : Ary Z h a ty n f) (hty : ty.isReference = true) {j : Int32} (hj : ¬ (j < 0 ∨ n ≤ j.toNatClampNeg)) {pc : Nat} {ls : Array Slot} {rest : List Value} (hd : decode c.code pc = .ok (.aaload, 1))
    (k : Go p e below Post T (mkF m (pc + 1) ls (f j.toNatClampNeg :: rest))) : Go p e below Post T (mkF m pc ls (.int j :: .ref a :: rest)) := by
  obtain ⟨eT, locs, N, Y⟩ := X
  obtain ⟨cl, A, r1, r2⟩ := A
  subst r1
  exact Go.st (fun t q => Y.aaload hx (j := j) (v := f j.toNatClampNeg) (by rw [eT]; exact A.1) (State.isArrayOf_alike hZ.alike A.2.1) hty A.2.2 hj (r2 _ (by omega)) (g := mkF m pc ls (.int j :: .ref a :: rest)) rfl rfl hd t q) k
theorem goStR (X : Stn p l e R s m args below meth c n0 T h ck sk) (hx : p.tables.exec = Jvm.exec) (hZ : Z.Warmed39 s.vm) {a y : Addr} {ty : FieldType} {n : Nat} {f : Nat → Value} {C : String} (A : Ary Z h a ty n f) (hty : ty.isReference = true) (O : AO Z h a C) (I : Ins Z h y C true) {j : Int32} (hj : ¬ (j < 0 ∨ n ≤ j.toNatClampNeg)) (ha : n0 ≤ a) {pc : Nat} {ls : Array Slot} {rest : List Value} (hd : decode c.code pc = .ok (.aastore, 1))
    (k : ∀ T' h', Stn p l e R s m args below meth c n0 T' h' ck sk → Wr h h' a j.toNatClampNeg (.ref y) → Ary Z h' a ty n (fun i => if i = j.toNatClampNeg then .ref y else f i) → Go p e below Post T' (mkF m (pc + 1) ls rest)) : Go p e below Post T (mkF m pc ls (.ref y :: .int j :: .ref a :: rest)) := by
  obtain ⟨eT, locs, N, Y⟩ := X
  have A0 := A
  obtain ⟨cl, A, r1, r2⟩ := A
  obtain ⟨cl2, o1, o2⟩ := O
  cases A.1.symm.trans o1
  subst r1
  obtain ⟨T', h', X', e', W, st⟩ := stR Y hx hZ eT A hj hty (Sto.of A o2 I) (g := mkF m pc ls (.ref y :: .int j :: .ref a :: rest)) rfl rfl hd
  exact Go.st st (k T' h' ⟨e', _, Fr.snoc X' N ha, X'⟩ W (A0.set W))
end OwnLayer2

section OwnLayer3
variable {p : Program} {l : Launch} {e : Env} {R : Room} {s : State} {m : MethodId} {args : Array Value} {below : List Frame} {meth : Method} {c : Code} {T T' : State} {h h' : Heap} {n0 ck sk : Nat} {Z : State} {a0 : Array Value} {Post : Outcome → State → Prop}
theorem own_ltn {i : Int32} {n : Nat} (hn : n < 2147483648) (h0 : ¬ i < 0) (hi : i < n.toInt32) : i.toNatClampNeg < n := by
  have e1 := nat_of h0
  rw [Int32.lt_iff_toInt_lt, Int32.toInt_ofNat_small (by omega)] at hi
  omega
theorem own_gen {i : Int32} {n : Nat} (hn : n < 2147483648) (h0 : ¬ i < 0) (hi : ¬ i < n.toInt32) : n ≤ i.toNatClampNeg := by
  have e1 := nat_of h0
  rw [Int32.lt_iff_toInt_lt, Int32.toInt_ofNat_small (by omega)] at hi
  omega
theorem own_succ {i : Int32} {n : Nat} (hn : n < 2147483648) (h0 : ¬ i < 0) (hi : i.toNatClampNeg < n) : ¬ (i + (1 : Int32)) < 0 ∧ (i + (1 : Int32)).toNatClampNeg = i.toNatClampNeg + 1 := by
  have e1 := nat_of h0
  have e2 : (i + (1 : Int32)).toInt = i.toInt + 1 := by rw [Jvm.Kit.i32_add (by simp; omega) (by simp; omega)]; rfl
  have h1 : ¬ (i + (1 : Int32)) < 0 := by rw [Int32.lt_iff_toInt_lt, e2]; simp; omega
  have e3 := nat_of h1
  exact ⟨h1, by omega⟩
theorem own_inb {i : Int32} {n : Nat} (h0 : ¬ i < 0) (hi : i.toNatClampNeg < n) : ¬ (i < 0 ∨ n ≤ i.toNatClampNeg) := fun z => z.elim h0 fun y => by omega
theorem z_of {n : Nat} (hn : n < 2147483648) : n.toInt32.toNatClampNeg = n ∧ ¬ n.toInt32 < 0 := by
  have e1 : n.toInt32.toInt = n := Int32.toInt_ofNat_small (by omega)
  have h0 : ¬ n.toInt32 < 0 := by rw [Int32.lt_iff_toInt_lt, e1]; simp
  have := nat_of h0
  exact ⟨by omega, h0⟩
theorem getD_map {n : Nat} {f : Nat → Value} {d : Value} {i : Nat} (hi : i < n) : ((List.range n).map f).getD i d = f i := by
  simp [List.getD_eq_getElem?_getD, hi]
theorem Ary.arv {a : Addr} {ty : FieldType} {n : Nat} {f : Nat → Value} (A : Ary Z h a ty n f) (hn : n < 2147483648) (hf : ∀ i, i < n → fits ty (f i) = true) (d : Value) : ∃ k, Arv Z h a k ty n.toInt32 ((List.range n).map f) d := by
  obtain ⟨cl, A, r1, r2⟩ := A
  refine ⟨cl.cls, cl, A, rfl, by rw [(z_of hn).1]; exact r1, (z_of hn).2, fun i hi => ?_, fun i hi => ?_⟩
  · rw [getD_map (r1 ▸ hi)]; exact r2 i (r1 ▸ hi)
  · rw [getD_map (r1 ▸ hi)]; exact hf i (r1 ▸ hi)
theorem Ary.ofArv {a : Addr} {k : ClassId} {ty : FieldType} {n : Nat} {vs : List Value} {d : Value} (A : Arv Z h a k ty n.toInt32 vs d) (hn : n < 2147483648) : Ary Z h a ty n (fun i => vs.getD i d) := by
  obtain ⟨cl, A, -, r2, -, r4, -⟩ := A
  rw [(z_of hn).1] at r2
  exact ⟨cl, A, r2, fun i hi => r4 i (r2 ▸ hi)⟩
theorem goCopy (X : Stn p l e R s m args below meth c n0 T h ck sk) (hx : p.tables.exec = Jvm.exec) (hZ : Z.Warmed39 s.vm) {own : String} {index : Nat} (hown : s.vm.findClass own = some m.cls)
    (w1 : (Cond.methodLink own index Jvm.Stand.acN).before a0 Z = true) (w2 : (Cond.native Jvm.Stand.acN).before a0 Z = true) (w3 : (Cond.static Jvm.Stand.acN).before a0 Z = true) (w4 : (Cond.initialized "java/lang/System").before a0 Z = true)
    {a b : Addr} {ty : FieldType} {n n' : Nat} {f f' : Nat → Value} (A : Ary Z h a ty n f) (B : Ary Z h b ty n' f') (hr : refKind ty = false) (hn : n < 2147483648) (hn' : n' < 2147483648) (hf1 : ∀ i, i < n → fits ty (f i) = true) (hf2 : ∀ i, i < n' → fits ty (f' i) = true)
    {sp dp nn : Int32} (h1 : ¬ sp < 0) (h2 : ¬ dp < 0) (h3 : ¬ nn < 0) (h4 : sp.toNatClampNeg + nn.toNatClampNeg ≤ n) (h5 : dp.toNatClampNeg + nn.toNatClampNeg ≤ n') (ge : n0 ≤ b)
    {pc : Nat} {ls : Array Slot} {rest : List Value} (hsize : ls.size = c.maxLocals) (hd : decode c.code pc = .ok (.invokestatic index, 3)) (hf : 1 ≤ R.frames) (W : Nat) (hW : (rest.map fun v => v.category).sum = W) (hlo : W + (nativeFrameWords "java/lang/System" "arraycopy" 5 + 11) ≤ R.locals)
    (k : ∀ T' h', Stn p l e R s m args below meth c n0 T' h' ck sk → Keep h h' [b] → Ary Z h' b ty n' (fun i => if dp.toNatClampNeg ≤ i ∧ i < dp.toNatClampNeg + nn.toNatClampNeg then f (sp.toNatClampNeg + (i - dp.toNatClampNeg)) else f' i) → Go p e below Post T' (mkF m (pc + 3) ls rest)) :
    Go p e below Post T (mkF m pc ls (.int nn :: .int dp :: .ref b :: .int sp :: .ref a :: rest)) := by
  obtain ⟨eT, locs, N, Y⟩ := X
  obtain ⟨k1, A1⟩ := A.arv hn hf1 .null
  obtain ⟨k2, B1⟩ := B.arv hn' hf2 .null
  obtain ⟨T', h', L, X', e', N', K, B', st⟩ := cpA Y hx hZ hown w1 w2 w3 w4 eT A1 B1 (Or.inl ⟨rfl, hr⟩) (sp := sp) (dp := dp) (nn := nn) h1 h2 h3 (by rw [(z_of hn).1]; exact h4) (by rw [(z_of hn').1]; exact h5) rfl (by simpa using h5) N ge (g := mkF m pc ls (.int nn :: .int dp :: .ref b :: .int sp :: .ref a :: rest)) rfl hsize rfl hd hf (W := W) (by show 2 * 0 + _ ≤ _; omega) hlo
  refine Go.st st (k T' h' ⟨e', L, N', X'⟩ K ((Ary.ofArv B' hn').congr fun i hi => ?_))
  simp only [List.getD_eq_getElem?_getD]
  by_cases c1 : i < dp.toNatClampNeg
  · rw [if_neg (by omega), List.append_assoc, List.getElem?_append_left (by simp; omega)]
    simp [List.getElem?_take, c1, hi]
  · by_cases c2 : i < dp.toNatClampNeg + nn.toNatClampNeg
    · rw [if_pos ⟨by omega, c2⟩, List.append_assoc, List.getElem?_append_right (by simp; omega), List.getElem?_append_left (by simp; omega)]
      have q1 : min dp.toNatClampNeg n' = dp.toNatClampNeg := by omega
      have q2 : i - dp.toNatClampNeg < nn.toNatClampNeg := by omega
      have q3 : sp.toNatClampNeg + (i - dp.toNatClampNeg) < n := by omega
      simp [q1, q2, q3]
    · rw [if_neg (by omega), List.append_assoc, List.getElem?_append_right (by simp; omega), List.getElem?_append_right (by simp; omega)]
      have q1 : min dp.toNatClampNeg n' = dp.toNatClampNeg := by omega
      have q2 : dp.toNatClampNeg + nn.toNatClampNeg + (i - dp.toNatClampNeg - nn.toNatClampNeg) = i := by omega
      simp [q1, q2, hi]
end OwnLayer3


def own_is (r : Int32) (P : Prop) : Prop := (r = 1 ∧ P) ∨ (r = 0 ∧ ¬ P)
theorem own_is_eq {r r' : Int32} {P P' : Prop} (h : own_is r P) (h' : own_is r' P') (q : P ↔ P') : r = r' := by
  rcases h with ⟨q1, q2⟩ | ⟨q1, q2⟩ <;> rcases h' with ⟨q3, q4⟩ | ⟨q3, q4⟩
  · rw [q1, q3]
  · exact absurd (q.mp q2) q4
  · exact absurd (q.mpr q4) q2
  · rw [q1, q3]
theorem own_yes {r : Int32} {P : Prop} (h : own_is r P) (n : P) : ¬ r = 0 := h.elim (fun q => by rw [q.1]; decide) (fun q => absurd n q.2)
theorem own_nolong {Z : State} {a0 : Array Value} (hw : ∀ d ∈ tables_1, d.before a0 Z = true) : ∃ c t, Z.vm.findClass "java/lang/Long" = some c ∧ Z.vm.findClass "com/example/keelstore/keelstore/layout/ConsumeQueueEntry" = some t ∧ Z.vm.assignable c t = false :=
  ns_no (hw _ (List.mem_of_getElem? (i := 35) rfl)) (hw _ (List.mem_of_getElem? (i := 1) rfl)) (NS.step (hw _ (List.mem_of_getElem? (i := 35) rfl)) (NS.step (hw _ (List.mem_of_getElem? (i := 36) rfl)) (ns_root (hw _ (List.mem_of_getElem? (i := 37) rfl)) (hw _ (List.mem_of_getElem? (i := 1) rfl)) (by decide)) (by decide)) (by decide)) (by decide)
def own_h (q : Int64) : Int32 := ((q ^^^ ((q.toUInt64 >>> ((32 : Int32) &&& 0x3f).toInt64.toUInt64).toInt64)).toInt32)

theorem d2_0 : decode jdk_30_method_1_code 0 = .ok (.aload_n 0, 1) := by decide +kernel
theorem d2_1 : decode jdk_30_method_1_code 1 = .ok (.invokespecial 1, 3) := by decide +kernel
theorem d2_4 : decode jdk_30_method_1_code 4 = .ok (.return_, 1) := by decide +kernel
theorem pn_2 : plainFor (⟨"java/lang/Record", "<init>", "()V"⟩ : MethodName) = true := plainFor_of_name (by first | (simp [plainName, overriddenIn]; done) | decide +kernel)
theorem ef_rm2 (m : MethodId) (x0 : Addr) : entryFrame m #[(.ref x0)] 1 = mkF m 0 #[.val (.ref x0)] [] := by first | (simp [entryFrame, mkF, argsToLocals, Value.category]; done) | rfl
def Q2 (Z : State) (n0 : Nat) (h0 : Heap) (a : Addr) (v : Option Value) (h : Heap) : Prop := v = none ∧ h = h0
set_option maxRecDepth 65536 in
set_option maxHeartbeats 40000000 in
theorem rm2 (l : Launch) (Z : State) (a0 : Array Value) (hw : ∀ d ∈ tables_1, d.before a0 Z = true) (ws : List Jvm.Cond) (n0 : Nat) (h0 : Heap) (a : Addr) (sz0 : n0 ≤ h0.size) :
    Con l (⟨"java/lang/Record", "<init>", "()V"⟩ : MethodName) jdk_30_method_1_code 1 none ({ frames := 1, cells := 0, slots := 0, locals := 12 } : Room) ws Z n0 #[(.ref a)] h0 (Q2 Z n0 h0 a) := by
  refine Con.body pn_2 ?_
  intro p e s m below meth c s₁ hx hby hml hown hnm hret hlk hZ X0
  have hown : s.vm.findClass "java/lang/Record" = some m.cls := hown
  have hnm : meth.name = "<init>" := hnm
  rw [show entryFrame m #[(.ref a)] 1 = mkF m 0 #[.val (.ref a)] [] from ef_rm2 m a]
  show Go p e below (PostW s n0 (0 : Nat) (0 : Nat) (Q2 Z n0 h0 a)) s₁ (mkF m 0 #[.val (.ref a)] [])
  refine Go.st (T' := s₁) (g' := (mkF m 1 #[.val (.ref a)] [(.ref a)])) (fun t_ k_ => XS.aloadN X0.here hx rfl (hb hby d2_0) rfl rfl k_) ?_
  refine goInit X0 hx hZ hown (hw _ (List.mem_of_getElem? (i := 11) rfl)) (hw _ (List.mem_of_getElem? (i := 12) rfl)) (hw _ (List.mem_of_getElem? (i := 13) rfl)) (by rw [hml]; rfl) (hb hby d2_1) (by decide) (W := 0) (Nat.le_of_eq rfl) (by decide) fun T1 X1 => ?_
  show Go p e below _ T1 (mkF m 4 #[.val (.ref a)] [])
  refine goRetV X1 hx hlk hret (hb hby d2_4) (by decide) (by decide) ?_
  refine ⟨rfl, rfl⟩
theorem d7_0 : decode jdk_18_method_1_code 0 = .ok (.aload_n 0, 1) := by decide +kernel
theorem d7_1 : decode jdk_18_method_1_code 1 = .ok (.invokespecial 1, 3) := by decide +kernel
theorem d7_4 : decode jdk_18_method_1_code 4 = .ok (.return_, 1) := by decide +kernel
theorem pn_7 : plainFor (⟨"java/lang/Number", "<init>", "()V"⟩ : MethodName) = true := plainFor_of_name (by first | (simp [plainName, overriddenIn]; done) | decide +kernel)
theorem ef_rm7 (m : MethodId) (x0 : Addr) : entryFrame m #[(.ref x0)] 1 = mkF m 0 #[.val (.ref x0)] [] := by first | (simp [entryFrame, mkF, argsToLocals, Value.category]; done) | rfl
def Q7 (Z : State) (n0 : Nat) (h0 : Heap) (a : Addr) (v : Option Value) (h : Heap) : Prop := v = none ∧ h = h0
set_option maxRecDepth 65536 in
set_option maxHeartbeats 40000000 in
theorem rm7 (l : Launch) (Z : State) (a0 : Array Value) (hw : ∀ d ∈ tables_1, d.before a0 Z = true) (ws : List Jvm.Cond) (n0 : Nat) (h0 : Heap) (a : Addr) (sz0 : n0 ≤ h0.size) :
    Con l (⟨"java/lang/Number", "<init>", "()V"⟩ : MethodName) jdk_18_method_1_code 1 none ({ frames := 1, cells := 0, slots := 0, locals := 12 } : Room) ws Z n0 #[(.ref a)] h0 (Q7 Z n0 h0 a) := by
  refine Con.body pn_7 ?_
  intro p e s m below meth c s₁ hx hby hml hown hnm hret hlk hZ X0
  have hown : s.vm.findClass "java/lang/Number" = some m.cls := hown
  have hnm : meth.name = "<init>" := hnm
  rw [show entryFrame m #[(.ref a)] 1 = mkF m 0 #[.val (.ref a)] [] from ef_rm7 m a]
  show Go p e below (PostW s n0 (0 : Nat) (0 : Nat) (Q7 Z n0 h0 a)) s₁ (mkF m 0 #[.val (.ref a)] [])
  refine Go.st (T' := s₁) (g' := (mkF m 1 #[.val (.ref a)] [(.ref a)])) (fun t_ k_ => XS.aloadN X0.here hx rfl (hb hby d7_0) rfl rfl k_) ?_
  refine goInit X0 hx hZ hown (hw _ (List.mem_of_getElem? (i := 50) rfl)) (hw _ (List.mem_of_getElem? (i := 12) rfl)) (hw _ (List.mem_of_getElem? (i := 13) rfl)) (by rw [hml]; rfl) (hb hby d7_1) (by decide) (W := 0) (Nat.le_of_eq rfl) (by decide) fun T1 X1 => ?_
  show Go p e below _ T1 (mkF m 4 #[.val (.ref a)] [])
  refine goRetV X1 hx hlk hret (hb hby d7_4) (by decide) (by decide) ?_
  refine ⟨rfl, rfl⟩
theorem d1_0 : decode prog_24_method_1_code 0 = .ok (.aload_n 0, 1) := by decide +kernel
theorem d1_1 : decode prog_24_method_1_code 1 = .ok (.invokespecial 1, 3) := by decide +kernel
theorem d1_4 : decode prog_24_method_1_code 4 = .ok (.aload_n 0, 1) := by decide +kernel
theorem d1_5 : decode prog_24_method_1_code 5 = .ok (.lload_n 1, 1) := by decide +kernel
theorem d1_6 : decode prog_24_method_1_code 6 = .ok (.putfield 7, 3) := by decide +kernel
theorem d1_9 : decode prog_24_method_1_code 9 = .ok (.aload_n 0, 1) := by decide +kernel
theorem d1_10 : decode prog_24_method_1_code 10 = .ok (.iload_n 3, 1) := by decide +kernel
theorem d1_11 : decode prog_24_method_1_code 11 = .ok (.putfield 13, 3) := by decide +kernel
theorem d1_14 : decode prog_24_method_1_code 14 = .ok (.aload_n 0, 1) := by decide +kernel
theorem d1_15 : decode prog_24_method_1_code 15 = .ok (.lload 4, 2) := by decide +kernel
theorem d1_17 : decode prog_24_method_1_code 17 = .ok (.putfield 17, 3) := by decide +kernel
theorem d1_20 : decode prog_24_method_1_code 20 = .ok (.return_, 1) := by decide +kernel
theorem pn_1 : plainFor (⟨"com/example/keelstore/keelstore/layout/ConsumeQueueEntry", "<init>", "(JIJ)V"⟩ : MethodName) = true := plainFor_of_name (by first | (simp [plainName, overriddenIn]; done) | decide +kernel)
theorem pd_0f51a560 : parseMethodDescriptor "()V" = some ⟨[], none⟩ := by decide +kernel
theorem ef_rm1 (m : MethodId) (x0 : Addr) (x1 : Int64) (x2 : Int32) (x3 : Int64) : entryFrame m #[(.ref x0), (.long x1), (.int x2), (.long x3)] 6 = mkF m 0 #[.val (.ref x0), .val (.long x1), .second, .val (.int x2), .val (.long x3), .second] [] := by first | (simp [entryFrame, mkF, argsToLocals, Value.category]; done) | rfl
def Q1 (Z : State) (n0 : Nat) (h0 : Heap) (a : Addr) (p1 : Int64) (p2 : Int32) (p3 : Int64) (u1 : Value) (u2 : Value) (u3 : Value) (v : Option Value) (h : Heap) : Prop := v = none ∧ Keep h0 h [a] ∧ Exa Z h a "com/example/keelstore/keelstore/layout/ConsumeQueueEntry" ∧ Fld Z h a "com/example/keelstore/keelstore/layout/ConsumeQueueEntry" "physicalOffset" "J" (.long p1) ∧ Fld Z h a "com/example/keelstore/keelstore/layout/ConsumeQueueEntry" "size" "I" (.int p2) ∧ Fld Z h a "com/example/keelstore/keelstore/layout/ConsumeQueueEntry" "tagHash" "J" (.long p3)
set_option maxRecDepth 65536 in
set_option maxHeartbeats 40000000 in
theorem rm1 (l : Launch) (Z : State) (a0 : Array Value) (hw : ∀ d ∈ tables_1, d.before a0 Z = true) (ws : List Jvm.Cond) (n0 : Nat) (h0 : Heap) (a : Addr) (p1 : Int64) (p2 : Int32) (p3 : Int64) (u1 : Value) (u2 : Value) (u3 : Value) (sz0 : n0 ≤ h0.size) (g0 : Exa Z h0 a "com/example/keelstore/keelstore/layout/ConsumeQueueEntry") (g1 : Fld Z h0 a "com/example/keelstore/keelstore/layout/ConsumeQueueEntry" "physicalOffset" "J" u1) (g2 : Fld Z h0 a "com/example/keelstore/keelstore/layout/ConsumeQueueEntry" "size" "I" u2) (g3 : Fld Z h0 a "com/example/keelstore/keelstore/layout/ConsumeQueueEntry" "tagHash" "J" u3) (g4 : n0 ≤ a) :
    Con l (⟨"com/example/keelstore/keelstore/layout/ConsumeQueueEntry", "<init>", "(JIJ)V"⟩ : MethodName) prog_24_method_1_code 6 none ({ frames := 2, cells := 0, slots := 0, locals := 24 } : Room) ws Z n0 #[(.ref a), (.long p1), (.int p2), (.long p3)] h0 (Q1 Z n0 h0 a p1 p2 p3 u1 u2 u3) := by
  refine Con.body pn_1 ?_
  intro p e s m below meth c s₁ hx hby hml hown hnm hret hlk hZ X0
  have hown : s.vm.findClass "com/example/keelstore/keelstore/layout/ConsumeQueueEntry" = some m.cls := hown
  have hnm : meth.name = "<init>" := hnm
  have K0 : Keep h0 h0 [a] := Keep.refl _ _
  rw [show entryFrame m #[(.ref a), (.long p1), (.int p2), (.long p3)] 6 = mkF m 0 #[.val (.ref a), .val (.long p1), .second, .val (.int p2), .val (.long p3), .second] [] from ef_rm1 m a p1 p2 p3]
  show Go p e below (PostW s n0 (0 : Nat) (0 : Nat) (Q1 Z n0 h0 a p1 p2 p3 u1 u2 u3)) s₁ (mkF m 0 #[.val (.ref a), .val (.long p1), .second, .val (.int p2), .val (.long p3), .second] [])
  refine Go.st (T' := s₁) (g' := (mkF m 1 #[.val (.ref a), .val (.long p1), .second, .val (.int p2), .val (.long p3), .second] [(.ref a)])) (fun t_ k_ => XS.aloadN X0.here hx rfl (hb hby d1_0) rfl rfl k_) ?_
  refine goCtor X0 hx hZ (y := (⟨"java/lang/Record", "<init>", "()V"⟩ : MethodName)) rfl hown (hw _ (List.mem_of_getElem? (i := 6) rfl)) (hw _ (List.mem_of_getElem? (i := 7) rfl)) (hw _ (List.mem_of_getElem? (i := 9) rfl)) (hw _ (List.mem_of_getElem? (i := 10) rfl)) (by decide) (rm2 l Z a0 hw [] n0 h0 a sz0) 0 (by decide) (by decide) (by rw [hml]; rfl) a [] [] (lenOf pd_0f51a560 rfl) rfl rfl rfl (hb hby d1_1) (by decide) (by decide) fun v1 T1 h1 X1 hq1 => ?_
  obtain ⟨rfl, eh1⟩ := hq1
  rw [eh1] at X1
  show Go p e below _ T1 (mkF m 4 #[.val (.ref a), .val (.long p1), .second, .val (.int p2), .val (.long p3), .second] [])
  refine Go.st (T' := T1) (g' := (mkF m 5 #[.val (.ref a), .val (.long p1), .second, .val (.int p2), .val (.long p3), .second] [(.ref a)])) (fun t_ k_ => XS.aloadN X1.here hx rfl (hb hby d1_4) rfl rfl k_) ?_
  refine Go.st (T' := T1) (g' := (mkF m 6 #[.val (.ref a), .val (.long p1), .second, .val (.int p2), .val (.long p3), .second] [(.long p1), (.ref a)])) (fun t_ k_ => XS.lloadN X1.here hx rfl (hb hby d1_5) rfl k_) ?_
  refine goPut X1 hx hZ hown (host := "") (Or.inl (hw _ (List.mem_of_getElem? (i := 14) rfl))) Via.refl g1 g0 (Or.inr ⟨(hw _ (List.mem_of_getElem? (i := 15) rfl)), rfl, hnm⟩) (hw _ (List.mem_of_getElem? (i := 1) rfl)) (ty := .long) (by decide) rfl rfl g4 (hb hby d1_6) fun T2 h2 X2 W2 => ?_
  have Fw2 := g1.same W2
  have f2_0 : Exa Z h2 a "com/example/keelstore/keelstore/layout/ConsumeQueueEntry" := g0.wr W2
  have f2_1 : Fld Z h2 a "com/example/keelstore/keelstore/layout/ConsumeQueueEntry" "size" "I" u2 := g2.other W2 (Or.inr (slot_ne (Or.inr (hw _ (List.mem_of_getElem? (i := 17) rfl))) (Or.inr (hw _ (List.mem_of_getElem? (i := 15) rfl))) (by decide) (t := .int) (t' := .long) (by decide) (by decide)))
  have f2_2 : Fld Z h2 a "com/example/keelstore/keelstore/layout/ConsumeQueueEntry" "tagHash" "J" u3 := g3.other W2 (Or.inr (slot_ne (Or.inr (hw _ (List.mem_of_getElem? (i := 19) rfl))) (Or.inr (hw _ (List.mem_of_getElem? (i := 15) rfl))) (by decide) (t := .long) (t' := .long) (by decide) (by decide)))
  have sz2 : n0 ≤ h2.size := Nat.le_trans sz0 (Keep.of_wr W2).1
  have K2 : Keep h0 h2 [a] := K0.wr W2 (Or.inl (List.mem_of_getElem? (i := 0) rfl))
  show Go p e below _ T2 (mkF m 9 #[.val (.ref a), .val (.long p1), .second, .val (.int p2), .val (.long p3), .second] [])
  refine Go.st (T' := T2) (g' := (mkF m 10 #[.val (.ref a), .val (.long p1), .second, .val (.int p2), .val (.long p3), .second] [(.ref a)])) (fun t_ k_ => XS.aloadN X2.here hx rfl (hb hby d1_9) rfl rfl k_) ?_
  refine Go.st (T' := T2) (g' := (mkF m 11 #[.val (.ref a), .val (.long p1), .second, .val (.int p2), .val (.long p3), .second] [(.int p2), (.ref a)])) (fun t_ k_ => XS.iloadN X2.here hx rfl (hb hby d1_10) rfl k_) ?_
  refine goPut X2 hx hZ hown (host := "") (Or.inl (hw _ (List.mem_of_getElem? (i := 16) rfl))) Via.refl f2_1 f2_0 (Or.inr ⟨(hw _ (List.mem_of_getElem? (i := 17) rfl)), rfl, hnm⟩) (hw _ (List.mem_of_getElem? (i := 1) rfl)) (ty := .int) (by decide) rfl rfl g4 (hb hby d1_11) fun T3 h3 X3 W3 => ?_
  have Fw3 := f2_1.same W3
  have f3_0 : Exa Z h3 a "com/example/keelstore/keelstore/layout/ConsumeQueueEntry" := f2_0.wr W3
  have f3_1 : Fld Z h3 a "com/example/keelstore/keelstore/layout/ConsumeQueueEntry" "tagHash" "J" u3 := f2_2.other W3 (Or.inr (slot_ne (Or.inr (hw _ (List.mem_of_getElem? (i := 19) rfl))) (Or.inr (hw _ (List.mem_of_getElem? (i := 17) rfl))) (by decide) (t := .long) (t' := .int) (by decide) (by decide)))
  have f3_3 : Fld Z h3 a "com/example/keelstore/keelstore/layout/ConsumeQueueEntry" "physicalOffset" "J" (.long p1) := Fw2.other W3 (Or.inr (slot_ne (Or.inr (hw _ (List.mem_of_getElem? (i := 15) rfl))) (Or.inr (hw _ (List.mem_of_getElem? (i := 17) rfl))) (by decide) (t := .long) (t' := .int) (by decide) (by decide)))
  have sz3 : n0 ≤ h3.size := Nat.le_trans sz2 (Keep.of_wr W3).1
  have K3 : Keep h0 h3 [a] := K2.wr W3 (Or.inl (List.mem_of_getElem? (i := 0) rfl))
  show Go p e below _ T3 (mkF m 14 #[.val (.ref a), .val (.long p1), .second, .val (.int p2), .val (.long p3), .second] [])
  refine Go.st (T' := T3) (g' := (mkF m 15 #[.val (.ref a), .val (.long p1), .second, .val (.int p2), .val (.long p3), .second] [(.ref a)])) (fun t_ k_ => XS.aloadN X3.here hx rfl (hb hby d1_14) rfl rfl k_) ?_
  refine Go.st (T' := T3) (g' := (mkF m 17 #[.val (.ref a), .val (.long p1), .second, .val (.int p2), .val (.long p3), .second] [(.long p3), (.ref a)])) (fun t_ k_ => XS.lload X3.here hx rfl (hb hby d1_15) rfl k_) ?_
  refine goPut X3 hx hZ hown (host := "") (Or.inl (hw _ (List.mem_of_getElem? (i := 18) rfl))) Via.refl f3_1 f3_0 (Or.inr ⟨(hw _ (List.mem_of_getElem? (i := 19) rfl)), rfl, hnm⟩) (hw _ (List.mem_of_getElem? (i := 1) rfl)) (ty := .long) (by decide) rfl rfl g4 (hb hby d1_17) fun T4 h4 X4 W4 => ?_
  have Fw4 := f3_1.same W4
  have f4_0 : Exa Z h4 a "com/example/keelstore/keelstore/layout/ConsumeQueueEntry" := f3_0.wr W4
  have f4_2 : Fld Z h4 a "com/example/keelstore/keelstore/layout/ConsumeQueueEntry" "physicalOffset" "J" (.long p1) := f3_3.other W4 (Or.inr (slot_ne (Or.inr (hw _ (List.mem_of_getElem? (i := 15) rfl))) (Or.inr (hw _ (List.mem_of_getElem? (i := 19) rfl))) (by decide) (t := .long) (t' := .long) (by decide) (by decide)))
  have f4_3 : Fld Z h4 a "com/example/keelstore/keelstore/layout/ConsumeQueueEntry" "size" "I" (.int p2) := Fw3.other W4 (Or.inr (slot_ne (Or.inr (hw _ (List.mem_of_getElem? (i := 17) rfl))) (Or.inr (hw _ (List.mem_of_getElem? (i := 19) rfl))) (by decide) (t := .int) (t' := .long) (by decide) (by decide)))
  have sz4 : n0 ≤ h4.size := Nat.le_trans sz3 (Keep.of_wr W4).1
  have K4 : Keep h0 h4 [a] := K3.wr W4 (Or.inl (List.mem_of_getElem? (i := 0) rfl))
  show Go p e below _ T4 (mkF m 20 #[.val (.ref a), .val (.long p1), .second, .val (.int p2), .val (.long p3), .second] [])
  refine goRetV X4 hx hlk hret (hb hby d1_20) (by decide) (by decide) ?_
  refine ⟨rfl, K4, f4_0, f4_2, f4_3, Fw4⟩
theorem d6_0 : decode jdk_35_method_26_code 0 = .ok (.aload_n 0, 1) := by decide +kernel
theorem d6_1 : decode jdk_35_method_26_code 1 = .ok (.invokespecial 270, 3) := by decide +kernel
theorem d6_4 : decode jdk_35_method_26_code 4 = .ok (.aload_n 0, 1) := by decide +kernel
theorem d6_5 : decode jdk_35_method_26_code 5 = .ok (.lload_n 1, 1) := by decide +kernel
theorem d6_6 : decode jdk_35_method_26_code 6 = .ok (.putfield 273, 3) := by decide +kernel
theorem d6_9 : decode jdk_35_method_26_code 9 = .ok (.return_, 1) := by decide +kernel
theorem pn_6 : plainFor (⟨"java/lang/Long", "<init>", "(J)V"⟩ : MethodName) = true := plainFor_of_name (by first | (simp [plainName, overriddenIn]; done) | decide +kernel)
theorem ef_rm6 (m : MethodId) (x0 : Addr) (x1 : Int64) : entryFrame m #[(.ref x0), (.long x1)] 3 = mkF m 0 #[.val (.ref x0), .val (.long x1), .second] [] := by first | (simp [entryFrame, mkF, argsToLocals, Value.category]; done) | rfl
def Q6 (Z : State) (n0 : Nat) (h0 : Heap) (a : Addr) (q : Int64) (u : Value) (v : Option Value) (h : Heap) : Prop := v = none ∧ Keep h0 h [a] ∧ Exa Z h a "java/lang/Long"
set_option maxRecDepth 65536 in
set_option maxHeartbeats 40000000 in
theorem rm6 (l : Launch) (Z : State) (a0 : Array Value) (hw : ∀ d ∈ tables_1, d.before a0 Z = true) (ws : List Jvm.Cond) (n0 : Nat) (h0 : Heap) (a : Addr) (q : Int64) (u : Value) (sz0 : n0 ≤ h0.size) (g0 : Exa Z h0 a "java/lang/Long") (g1 : Fld Z h0 a "java/lang/Long" "value" "J" u) (g2 : n0 ≤ a) :
    Con l (⟨"java/lang/Long", "<init>", "(J)V"⟩ : MethodName) jdk_35_method_26_code 3 none ({ frames := 2, cells := 0, slots := 0, locals := 24 } : Room) ws Z n0 #[(.ref a), (.long q)] h0 (Q6 Z n0 h0 a q u) := by
  refine Con.body pn_6 ?_
  intro p e s m below meth c s₁ hx hby hml hown hnm hret hlk hZ X0
  have hown : s.vm.findClass "java/lang/Long" = some m.cls := hown
  have hnm : meth.name = "<init>" := hnm
  have K0 : Keep h0 h0 [a] := Keep.refl _ _
  rw [show entryFrame m #[(.ref a), (.long q)] 3 = mkF m 0 #[.val (.ref a), .val (.long q), .second] [] from ef_rm6 m a q]
  show Go p e below (PostW s n0 (0 : Nat) (0 : Nat) (Q6 Z n0 h0 a q u)) s₁ (mkF m 0 #[.val (.ref a), .val (.long q), .second] [])
  refine Go.st (T' := s₁) (g' := (mkF m 1 #[.val (.ref a), .val (.long q), .second] [(.ref a)])) (fun t_ k_ => XS.aloadN X0.here hx rfl (hb hby d6_0) rfl rfl k_) ?_
  refine goCtor X0 hx hZ (y := (⟨"java/lang/Number", "<init>", "()V"⟩ : MethodName)) rfl hown (hw _ (List.mem_of_getElem? (i := 44) rfl)) (hw _ (List.mem_of_getElem? (i := 45) rfl)) (hw _ (List.mem_of_getElem? (i := 48) rfl)) (hw _ (List.mem_of_getElem? (i := 49) rfl)) (by decide) (rm7 l Z a0 hw [] n0 h0 a sz0) 0 (by decide) (by decide) (by rw [hml]; rfl) a [] [] (lenOf pd_0f51a560 rfl) rfl rfl rfl (hb hby d6_1) (by decide) (by decide) fun v1 T1 h1 X1 hq1 => ?_
  obtain ⟨rfl, eh1⟩ := hq1
  rw [eh1] at X1
  show Go p e below _ T1 (mkF m 4 #[.val (.ref a), .val (.long q), .second] [])
  refine Go.st (T' := T1) (g' := (mkF m 5 #[.val (.ref a), .val (.long q), .second] [(.ref a)])) (fun t_ k_ => XS.aloadN X1.here hx rfl (hb hby d6_4) rfl rfl k_) ?_
  refine Go.st (T' := T1) (g' := (mkF m 6 #[.val (.ref a), .val (.long q), .second] [(.long q), (.ref a)])) (fun t_ k_ => XS.lloadN X1.here hx rfl (hb hby d6_5) rfl k_) ?_
  refine goPut X1 hx hZ hown (host := "") (Or.inl (hw _ (List.mem_of_getElem? (i := 51) rfl))) Via.refl g1 g0 (Or.inr ⟨(hw _ (List.mem_of_getElem? (i := 52) rfl)), rfl, hnm⟩) (hw _ (List.mem_of_getElem? (i := 39) rfl)) (ty := .long) (by decide) rfl rfl g2 (hb hby d6_6) fun T2 h2 X2 W2 => ?_
  have Fw2 := g1.same W2
  have f2_0 : Exa Z h2 a "java/lang/Long" := g0.wr W2
  have sz2 : n0 ≤ h2.size := Nat.le_trans sz0 (Keep.of_wr W2).1
  have K2 : Keep h0 h2 [a] := K0.wr W2 (Or.inl (List.mem_of_getElem? (i := 0) rfl))
  show Go p e below _ T2 (mkF m 9 #[.val (.ref a), .val (.long q), .second] [])
  refine goRetV X2 hx hlk hret (hb hby d6_9) (by decide) (by decide) ?_
  refine ⟨rfl, K2, f2_0⟩

theorem own_idx {q : Int64} (h1 : ¬ q < (-128 : Int64)) (h2 : ¬ (127 : Int64) < q) : ¬ (((q.toInt32) + (128 : Int32)) < 0 ∨ 256 ≤ ((q.toInt32) + (128 : Int32)).toNatClampNeg) := by
  simp only [Int64.lt_iff_toInt_lt, Int64.reduceToInt] at h1 h2
  have e1 : q.toInt32.toInt = q.toInt := Jvm.Kit.i32_of_i64 (by omega) (by omega)
  have e2 : ((q.toInt32) + (128 : Int32)).toInt = q.toInt + 128 := by rw [Jvm.Kit.i32_add (by rw [e1]; simp; omega) (by rw [e1]; simp; omega), e1]; rfl
  have h0 : ¬ ((q.toInt32) + (128 : Int32)) < 0 := by rw [Int32.lt_iff_toInt_lt, e2]; simp; omega
  have := nat_of h0
  rintro (z | z)
  · exact h0 z
  · omega

theorem d4_0 : decode jdk_35_method_24_code 0 = .ok (.sipush 128, 3) := by decide +kernel
theorem d4_3 : decode jdk_35_method_24_code 3 = .ok (.istore_n 2, 1) := by decide +kernel
theorem d4_4 : decode jdk_35_method_24_code 4 = .ok (.lload_n 0, 1) := by decide +kernel
theorem d4_5 : decode jdk_35_method_24_code 5 = .ok (.ldc2_w 230, 3) := by decide +kernel
theorem d4_8 : decode jdk_35_method_24_code 8 = .ok (.lcmp, 1) := by decide +kernel
theorem d4_9 : decode jdk_35_method_24_code 9 = .ok (.ifCond .lt 22, 3) := by decide +kernel
theorem d4_12 : decode jdk_35_method_24_code 12 = .ok (.lload_n 0, 1) := by decide +kernel
theorem d4_13 : decode jdk_35_method_24_code 13 = .ok (.ldc2_w 232, 3) := by decide +kernel
theorem d4_16 : decode jdk_35_method_24_code 16 = .ok (.lcmp, 1) := by decide +kernel
theorem d4_17 : decode jdk_35_method_24_code 17 = .ok (.ifCond .gt 14, 3) := by decide +kernel
theorem d4_20 : decode jdk_35_method_24_code 20 = .ok (.getstatic 234, 3) := by decide +kernel
theorem d4_23 : decode jdk_35_method_24_code 23 = .ok (.lload_n 0, 1) := by decide +kernel
theorem d4_24 : decode jdk_35_method_24_code 24 = .ok (.l2i, 1) := by decide +kernel
theorem d4_25 : decode jdk_35_method_24_code 25 = .ok (.sipush 128, 3) := by decide +kernel
theorem d4_28 : decode jdk_35_method_24_code 28 = .ok (.iadd, 1) := by decide +kernel
theorem d4_29 : decode jdk_35_method_24_code 29 = .ok (.aaload, 1) := by decide +kernel
theorem d4_30 : decode jdk_35_method_24_code 30 = .ok (.areturn, 1) := by decide +kernel
theorem d4_31 : decode jdk_35_method_24_code 31 = .ok (.new 1, 3) := by decide +kernel
theorem d4_34 : decode jdk_35_method_24_code 34 = .ok (.dup, 1) := by decide +kernel
theorem d4_35 : decode jdk_35_method_24_code 35 = .ok (.lload_n 0, 1) := by decide +kernel
theorem d4_36 : decode jdk_35_method_24_code 36 = .ok (.invokespecial 240, 3) := by decide +kernel
theorem d4_39 : decode jdk_35_method_24_code 39 = .ok (.areturn, 1) := by decide +kernel
theorem pn_4 : plainFor (⟨"java/lang/Long", "valueOf", "(J)Ljava/lang/Long;"⟩ : MethodName) = true := plainFor_of_name (by first | (simp [plainName, overriddenIn]; done) | decide +kernel)
theorem pd_ff813bf1 : parseMethodDescriptor "(J)V" = some ⟨[.long], none⟩ := by decide +kernel
theorem ef_rm4 (m : MethodId) (x0 : Int64) : entryFrame m #[(.long x0)] 3 = mkF m 0 #[.val (.long x0), .second, .unset] [] := by first | (simp [entryFrame, mkF, argsToLocals, Value.category]; done) | rfl
def Q4 (Z : State) (n0 : Nat) (h0 : Heap) (q : Int64) (wc : Addr) (fc : Nat → Value) (v : Option Value) (h : Heap) : Prop := ∃ (o : Addr), v = some (.ref o) ∧ Keep h0 h [] ∧ Exa Z h o "java/lang/Long"
set_option maxRecDepth 65536 in
set_option maxHeartbeats 40000000 in
theorem rm4 (l : Launch) (Z : State) (a0 : Array Value) (hw : ∀ d ∈ tables_1, d.before a0 Z = true) (ws : List Jvm.Cond) (n0 : Nat) (h0 : Heap) (q : Int64) (wc : Addr) (fc : Nat → Value) (sz0 : n0 ≤ h0.size) (g0 : Sta Z h0 "java/lang/Long$LongCache" "cache" "[Ljava/lang/Long;" (.ref wc)) (g1 : Ary Z h0 wc (.object "java/lang/Long") 256 fc) (g2 : ∀ i, i < 256 → ∃ w, fc i = .ref w ∧ Exa Z h0 w "java/lang/Long") :
    Con l (⟨"java/lang/Long", "valueOf", "(J)Ljava/lang/Long;"⟩ : MethodName) jdk_35_method_24_code 3 (some (.object "java/lang/Long")) ({ frames := 3, cells := 1, slots := 1, locals := 40 } : Room) ws Z n0 #[(.long q)] h0 (Q4 Z n0 h0 q wc fc) := by
  refine Con.body pn_4 ?_
  intro p e s m below meth c s₁ hx hby hml hown hnm hret hlk hZ X0
  have hown : s.vm.findClass "java/lang/Long" = some m.cls := hown
  have hnm : meth.name = "valueOf" := hnm
  have K0 : Keep h0 h0 [] := Keep.refl _ _
  rw [show entryFrame m #[(.long q)] 3 = mkF m 0 #[.val (.long q), .second, .unset] [] from ef_rm4 m q]
  show Go p e below (PostW s n0 (1 : Nat) (1 : Nat) (Q4 Z n0 h0 q wc fc)) s₁ (mkF m 0 #[.val (.long q), .second, .unset] [])
  refine Go.st (T' := s₁) (g' := (mkF m 3 #[.val (.long q), .second, .unset] [(.int (128 : Int32))])) (fun t_ k_ => XS.sipush X0.here hx rfl (hb hby d4_0) k_) ?_
  refine Go.st (T' := s₁) (g' := (mkF m 4 #[.val (.long q), .second, .val (.int (128 : Int32))] [])) (fun t_ k_ => XS.istoreN X0.here hx rfl (hb hby d4_3) rfl (l' := #[.val (.long q), .second, .val (.int (128 : Int32))]) rfl k_) ?_
  refine Go.st (T' := s₁) (g' := (mkF m 5 #[.val (.long q), .second, .val (.int (128 : Int32))] [(.long q)])) (fun t_ k_ => XS.lloadN X0.here hx rfl (hb hby d4_4) rfl k_) ?_
  refine Go.st (T' := s₁) (g' := (mkF m 8 #[.val (.long q), .second, .val (.int (128 : Int32))] [(.long (-128 : Int64)), (.long q)])) (fun t_ k_ => Stn.ldcJ X0 hx hZ hown (hw _ (List.mem_of_getElem? (i := 24) rfl)) (hb hby d4_5) k_) ?_
  refine Go.st (T' := s₁) (g' := (mkF m 9 #[.val (.long q), .second, .val (.int (128 : Int32))] [(.int (lcmpW q (-128 : Int64)))])) (fun t_ k_ => XS.lcmp X0.here hx rfl (hb hby d4_8) rfl k_) ?_
  by_cases hc9 : q < (-128 : Int64)
  · skip
    refine Go.st (T' := s₁) (g' := (mkF m 31 #[.val (.long q), .second, .val (.int (128 : Int32))] [])) (fun t_ k_ => XS.ifYes X0.here hx rfl (pc0 := 9) (pc' := 31) rfl (hb hby d4_9) rfl (lcTlt hc9).1 (by decide) (by decide) k_) ?_
    refine goNew X0 hx hZ hown (hw _ (List.mem_of_getElem? (i := 38) rfl)) (hw _ (List.mem_of_getElem? (i := 39) rfl)) (hw _ (List.mem_of_getElem? (i := 22) rfl)) (hb hby d4_31) (by decide) (by decide) fun T1 h1 b1 gb1 X1 E1 A1 D1 => ?_
    have ge1 : n0 ≤ b1 := gb1 ▸ sz0
    have ne1_wc : wc ≠ b1 := gb1 ▸ Nat.ne_of_lt g1.lt
    have fr1 : h0.size ≤ b1 := gb1 ▸ K0.1
    have f1_0 : Sta Z h1 "java/lang/Long$LongCache" "cache" "[Ljava/lang/Long;" (.ref wc) := g0.ext E1
    have f1_1 : Ary Z h1 wc (.object "java/lang/Long") 256 fc := g1.ext E1
    have f1_2 : ∀ i, i < 256 → ∃ w, fc i = .ref w ∧ Exa Z h1 w "java/lang/Long" := fun i hi => (g2 i hi).imp fun _ q => ⟨q.1, q.2.ext E1⟩
    have sz1 : n0 ≤ h1.size := Nat.le_trans sz0 E1.1
    have K1 : Keep h0 h1 [] := K0.ext E1
    have F1_value : Fld Z h1 b1 "java/lang/Long" "value" "J" (.long (0 : Int64)) := D1 (Or.inr (hw _ (List.mem_of_getElem? (i := 52) rfl))) (ty := .long) (by decide)
    show Go p e below _ T1 (mkF m 34 #[.val (.long q), .second, .val (.int (128 : Int32))] [(.ref b1)])
    refine Go.st (T' := T1) (g' := (mkF m 35 #[.val (.long q), .second, .val (.int (128 : Int32))] [(.ref b1), (.ref b1)])) (fun t_ k_ => XS.dup X1.here hx rfl (hb hby d4_34) rfl rfl k_) ?_
    refine Go.st (T' := T1) (g' := (mkF m 36 #[.val (.long q), .second, .val (.int (128 : Int32))] [(.long q), (.ref b1), (.ref b1)])) (fun t_ k_ => XS.lloadN X1.here hx rfl (hb hby d4_35) rfl k_) ?_
    refine goCtor X1 hx hZ (y := (⟨"java/lang/Long", "<init>", "(J)V"⟩ : MethodName)) rfl hown (hw _ (List.mem_of_getElem? (i := 40) rfl)) (hw _ (List.mem_of_getElem? (i := 41) rfl)) (hw _ (List.mem_of_getElem? (i := 22) rfl)) (hw _ (List.mem_of_getElem? (i := 43) rfl)) (by decide) (rm6 l Z a0 hw [] n0 h1 b1 q (.long (0 : Int64)) sz1 A1 F1_value ge1) 1 (by decide) (by decide) (by rw [hml]; rfl) b1 [(.long q)] [(.ref b1)] (lenOf pd_ff813bf1 rfl) rfl rfl rfl (hb hby d4_36) (by decide) (by decide) fun v2 T2 h2 X2 hq2 => ?_
    obtain ⟨rfl, K2c, p2_0⟩ := hq2
    have f2_0 : Sta Z h2 "java/lang/Long$LongCache" "cache" "[Ljava/lang/Long;" (.ref wc) := sta_keep f1_0 K2c (allS ⟨_, A1⟩ all0)
    have f2_1 : Ary Z h2 wc (.object "java/lang/Long") 256 fc := f1_1.keep K2c (ninS ne1_wc nin0)
    have f2_2 : ∀ i, i < 256 → ∃ w, fc i = .ref w ∧ Exa Z h2 w "java/lang/Long" := fun i hi => (f1_2 i hi).imp fun _ q => ⟨q.1, q.2.keep K2c⟩
    have f2_6 : Exa Z h2 b1 "java/lang/Long" := A1.keep K2c
    have sz2 : n0 ≤ h2.size := Nat.le_trans sz1 K2c.1
    have K2 : Keep h0 h2 [] := K1.trans K2c (allS (Or.inr fr1) all0)
    show Go p e below _ T2 (mkF m 39 #[.val (.long q), .second, .val (.int (128 : Int32))] [(.ref b1)])
    refine goRetA X2 hx hlk hret rfl (hb hby d4_39) (by decide) (by decide) ?_
    refine ⟨b1, rfl, K2, p2_0⟩
  · skip
    refine Go.st (T' := s₁) (g' := (mkF m 12 #[.val (.long q), .second, .val (.int (128 : Int32))] [])) (fun t_ k_ => XS.ifNo X0.here hx rfl (hb hby d4_9) rfl (lcFlt hc9).1 k_) ?_
    refine Go.st (T' := s₁) (g' := (mkF m 13 #[.val (.long q), .second, .val (.int (128 : Int32))] [(.long q)])) (fun t_ k_ => XS.lloadN X0.here hx rfl (hb hby d4_12) rfl k_) ?_
    refine Go.st (T' := s₁) (g' := (mkF m 16 #[.val (.long q), .second, .val (.int (128 : Int32))] [(.long (127 : Int64)), (.long q)])) (fun t_ k_ => Stn.ldcJ X0 hx hZ hown (hw _ (List.mem_of_getElem? (i := 25) rfl)) (hb hby d4_13) k_) ?_
    refine Go.st (T' := s₁) (g' := (mkF m 17 #[.val (.long q), .second, .val (.int (128 : Int32))] [(.int (lcmpW q (127 : Int64)))])) (fun t_ k_ => XS.lcmp X0.here hx rfl (hb hby d4_16) rfl k_) ?_
    by_cases hc17 : (127 : Int64) < q
    · skip
      refine Go.st (T' := s₁) (g' := (mkF m 31 #[.val (.long q), .second, .val (.int (128 : Int32))] [])) (fun t_ k_ => XS.ifYes X0.here hx rfl (pc0 := 17) (pc' := 31) rfl (hb hby d4_17) rfl (lcTgt hc17).1 (by decide) (by decide) k_) ?_
      refine goNew X0 hx hZ hown (hw _ (List.mem_of_getElem? (i := 38) rfl)) (hw _ (List.mem_of_getElem? (i := 39) rfl)) (hw _ (List.mem_of_getElem? (i := 22) rfl)) (hb hby d4_31) (by decide) (by decide) fun T3 h3 b3 gb3 X3 E3 A3 D3 => ?_
      have ge3 : n0 ≤ b3 := gb3 ▸ sz0
      have ne3_wc : wc ≠ b3 := gb3 ▸ Nat.ne_of_lt g1.lt
      have fr3 : h0.size ≤ b3 := gb3 ▸ K0.1
      have f3_0 : Sta Z h3 "java/lang/Long$LongCache" "cache" "[Ljava/lang/Long;" (.ref wc) := g0.ext E3
      have f3_1 : Ary Z h3 wc (.object "java/lang/Long") 256 fc := g1.ext E3
      have f3_2 : ∀ i, i < 256 → ∃ w, fc i = .ref w ∧ Exa Z h3 w "java/lang/Long" := fun i hi => (g2 i hi).imp fun _ q => ⟨q.1, q.2.ext E3⟩
      have sz3 : n0 ≤ h3.size := Nat.le_trans sz0 E3.1
      have K3 : Keep h0 h3 [] := K0.ext E3
      have F3_value : Fld Z h3 b3 "java/lang/Long" "value" "J" (.long (0 : Int64)) := D3 (Or.inr (hw _ (List.mem_of_getElem? (i := 52) rfl))) (ty := .long) (by decide)
      show Go p e below _ T3 (mkF m 34 #[.val (.long q), .second, .val (.int (128 : Int32))] [(.ref b3)])
      refine Go.st (T' := T3) (g' := (mkF m 35 #[.val (.long q), .second, .val (.int (128 : Int32))] [(.ref b3), (.ref b3)])) (fun t_ k_ => XS.dup X3.here hx rfl (hb hby d4_34) rfl rfl k_) ?_
      refine Go.st (T' := T3) (g' := (mkF m 36 #[.val (.long q), .second, .val (.int (128 : Int32))] [(.long q), (.ref b3), (.ref b3)])) (fun t_ k_ => XS.lloadN X3.here hx rfl (hb hby d4_35) rfl k_) ?_
      refine goCtor X3 hx hZ (y := (⟨"java/lang/Long", "<init>", "(J)V"⟩ : MethodName)) rfl hown (hw _ (List.mem_of_getElem? (i := 40) rfl)) (hw _ (List.mem_of_getElem? (i := 41) rfl)) (hw _ (List.mem_of_getElem? (i := 22) rfl)) (hw _ (List.mem_of_getElem? (i := 43) rfl)) (by decide) (rm6 l Z a0 hw [] n0 h3 b3 q (.long (0 : Int64)) sz3 A3 F3_value ge3) 1 (by decide) (by decide) (by rw [hml]; rfl) b3 [(.long q)] [(.ref b3)] (lenOf pd_ff813bf1 rfl) rfl rfl rfl (hb hby d4_36) (by decide) (by decide) fun v4 T4 h4 X4 hq4 => ?_
      obtain ⟨rfl, K4c, p4_0⟩ := hq4
      have f4_0 : Sta Z h4 "java/lang/Long$LongCache" "cache" "[Ljava/lang/Long;" (.ref wc) := sta_keep f3_0 K4c (allS ⟨_, A3⟩ all0)
      have f4_1 : Ary Z h4 wc (.object "java/lang/Long") 256 fc := f3_1.keep K4c (ninS ne3_wc nin0)
      have f4_2 : ∀ i, i < 256 → ∃ w, fc i = .ref w ∧ Exa Z h4 w "java/lang/Long" := fun i hi => (f3_2 i hi).imp fun _ q => ⟨q.1, q.2.keep K4c⟩
      have f4_6 : Exa Z h4 b3 "java/lang/Long" := A3.keep K4c
      have sz4 : n0 ≤ h4.size := Nat.le_trans sz3 K4c.1
      have K4 : Keep h0 h4 [] := K3.trans K4c (allS (Or.inr fr3) all0)
      show Go p e below _ T4 (mkF m 39 #[.val (.long q), .second, .val (.int (128 : Int32))] [(.ref b3)])
      refine goRetA X4 hx hlk hret rfl (hb hby d4_39) (by decide) (by decide) ?_
      refine ⟨b3, rfl, K4, p4_0⟩
    · skip
      refine Go.st (T' := s₁) (g' := (mkF m 20 #[.val (.long q), .second, .val (.int (128 : Int32))] [])) (fun t_ k_ => XS.ifNo X0.here hx rfl (hb hby d4_17) rfl (lcFgt hc17).1 k_) ?_
      refine goGetS X0 hx hZ hown (host := "") (Or.inl (hw _ (List.mem_of_getElem? (i := 26) rfl))) Via.refl g0 (hb hby d4_20) fun T5 X5 => ?_
      show Go p e below _ T5 (mkF m 23 #[.val (.long q), .second, .val (.int (128 : Int32))] [(.ref wc)])
      refine Go.st (T' := T5) (g' := (mkF m 24 #[.val (.long q), .second, .val (.int (128 : Int32))] [(.long q), (.ref wc)])) (fun t_ k_ => XS.lloadN X5.here hx rfl (hb hby d4_23) rfl k_) ?_
      refine Go.st (T' := T5) (g' := (mkF m 25 #[.val (.long q), .second, .val (.int (128 : Int32))] [(.int (q.toInt32)), (.ref wc)])) (fun t_ k_ => XS.l2i X5.here hx rfl (hb hby d4_24) rfl k_) ?_
      refine Go.st (T' := T5) (g' := (mkF m 28 #[.val (.long q), .second, .val (.int (128 : Int32))] [(.int (128 : Int32)), (.int (q.toInt32)), (.ref wc)])) (fun t_ k_ => XS.sipush X5.here hx rfl (hb hby d4_25) k_) ?_
      refine Go.st (T' := T5) (g' := (mkF m 29 #[.val (.long q), .second, .val (.int (128 : Int32))] [(.int ((q.toInt32) + (128 : Int32))), (.ref wc)])) (fun t_ k_ => XS.iadd X5.here hx rfl (hb hby d4_28) rfl k_) ?_
      refine goLdR X5 hx hZ g1 rfl (j := ((q.toInt32) + (128 : Int32))) (own_idx hc9 hc17) (hb hby d4_29) ?_
      obtain ⟨w0, ew0, Ew0⟩ := g2 (((q.toInt32) + (128 : Int32)).toNatClampNeg) (Nat.lt_of_not_le fun y => (own_idx hc9 hc17) (Or.inr y))
      rw [show (fc (((q.toInt32) + (128 : Int32))).toNatClampNeg) = (.ref w0) from ew0]
      show Go p e below _ T5 (mkF m 30 #[.val (.long q), .second, .val (.int (128 : Int32))] [(.ref w0)])
      refine goRetA X5 hx hlk hret rfl (hb hby d4_30) (by decide) (by decide) ?_
      refine ⟨w0, rfl, K0, Ew0⟩
theorem d5_0 : decode prog_24_method_6_code 0 = .ok (.aload_n 1, 1) := by decide +kernel
theorem d5_1 : decode prog_24_method_6_code 1 = .ok (.instanceof 8, 3) := by decide +kernel
theorem d5_4 : decode prog_24_method_6_code 4 = .ok (.ifCond .eq 47, 3) := by decide +kernel
theorem d5_7 : decode prog_24_method_6_code 7 = .ok (.aload_n 1, 1) := by decide +kernel
theorem d5_8 : decode prog_24_method_6_code 8 = .ok (.checkcast 8, 3) := by decide +kernel
theorem d5_11 : decode prog_24_method_6_code 11 = .ok (.astore_n 2, 1) := by decide +kernel
theorem d5_12 : decode prog_24_method_6_code 12 = .ok (.aload_n 0, 1) := by decide +kernel
theorem d5_13 : decode prog_24_method_6_code 13 = .ok (.getfield 7, 3) := by decide +kernel
theorem d5_16 : decode prog_24_method_6_code 16 = .ok (.aload_n 2, 1) := by decide +kernel
theorem d5_17 : decode prog_24_method_6_code 17 = .ok (.getfield 7, 3) := by decide +kernel
theorem d5_20 : decode prog_24_method_6_code 20 = .ok (.lcmp, 1) := by decide +kernel
theorem d5_21 : decode prog_24_method_6_code 21 = .ok (.ifCond .ne 30, 3) := by decide +kernel
theorem d5_24 : decode prog_24_method_6_code 24 = .ok (.aload_n 0, 1) := by decide +kernel
theorem d5_25 : decode prog_24_method_6_code 25 = .ok (.getfield 13, 3) := by decide +kernel
theorem d5_28 : decode prog_24_method_6_code 28 = .ok (.aload_n 2, 1) := by decide +kernel
theorem d5_29 : decode prog_24_method_6_code 29 = .ok (.getfield 13, 3) := by decide +kernel
theorem d5_32 : decode prog_24_method_6_code 32 = .ok (.if_icmp .ne 19, 3) := by decide +kernel
theorem d5_35 : decode prog_24_method_6_code 35 = .ok (.aload_n 0, 1) := by decide +kernel
theorem d5_36 : decode prog_24_method_6_code 36 = .ok (.getfield 17, 3) := by decide +kernel
theorem d5_39 : decode prog_24_method_6_code 39 = .ok (.aload_n 2, 1) := by decide +kernel
theorem d5_40 : decode prog_24_method_6_code 40 = .ok (.getfield 17, 3) := by decide +kernel
theorem d5_43 : decode prog_24_method_6_code 43 = .ok (.lcmp, 1) := by decide +kernel
theorem d5_44 : decode prog_24_method_6_code 44 = .ok (.ifCond .ne 7, 3) := by decide +kernel
theorem d5_47 : decode prog_24_method_6_code 47 = .ok (.iconst 1, 1) := by decide +kernel
theorem d5_48 : decode prog_24_method_6_code 48 = .ok (.goto 4, 3) := by decide +kernel
theorem d5_51 : decode prog_24_method_6_code 51 = .ok (.iconst 0, 1) := by decide +kernel
theorem d5_52 : decode prog_24_method_6_code 52 = .ok (.ireturn, 1) := by decide +kernel
theorem pn_5 : plainFor (⟨"com/example/keelstore/keelstore/layout/ConsumeQueueEntry", "equals", "(Ljava/lang/Object;)Z"⟩ : MethodName) = true := plainFor_of_name (by first | (simp [plainName, overriddenIn]; done) | decide +kernel)
theorem ef_rm5 (m : MethodId) (x0 : Addr) (x1 : Addr) : entryFrame m #[(.ref x0), (.ref x1)] 3 = mkF m 0 #[.val (.ref x0), .val (.ref x1), .unset] [] := by first | (simp [entryFrame, mkF, argsToLocals, Value.category]; done) | rfl
def Q5 (Z : State) (n0 : Nat) (h0 : Heap) (a : Addr) (b : Addr) (p1 : Int64) (p2 : Int32) (p3 : Int64) (q1 : Int64) (q2 : Int32) (q3 : Int64) (v : Option Value) (h : Heap) : Prop := ∃ (r : Int32), v = some (.int r) ∧ h = h0 ∧ (own_is r (p1 = q1 ∧ p2 = q2 ∧ p3 = q3))
set_option maxRecDepth 65536 in
set_option maxHeartbeats 40000000 in
theorem rm5 (l : Launch) (Z : State) (a0 : Array Value) (hw : ∀ d ∈ tables_1, d.before a0 Z = true) (ws : List Jvm.Cond) (n0 : Nat) (h0 : Heap) (a : Addr) (b : Addr) (p1 : Int64) (p2 : Int32) (p3 : Int64) (q1 : Int64) (q2 : Int32) (q3 : Int64) (sz0 : n0 ≤ h0.size) (g0 : Exa Z h0 b "com/example/keelstore/keelstore/layout/ConsumeQueueEntry") (g1 : Fld Z h0 a "com/example/keelstore/keelstore/layout/ConsumeQueueEntry" "physicalOffset" "J" (.long p1)) (g2 : Fld Z h0 a "com/example/keelstore/keelstore/layout/ConsumeQueueEntry" "size" "I" (.int p2)) (g3 : Fld Z h0 a "com/example/keelstore/keelstore/layout/ConsumeQueueEntry" "tagHash" "J" (.long p3)) (g4 : Fld Z h0 b "com/example/keelstore/keelstore/layout/ConsumeQueueEntry" "physicalOffset" "J" (.long q1)) (g5 : Fld Z h0 b "com/example/keelstore/keelstore/layout/ConsumeQueueEntry" "size" "I" (.int q2)) (g6 : Fld Z h0 b "com/example/keelstore/keelstore/layout/ConsumeQueueEntry" "tagHash" "J" (.long q3)) :
    Con l (⟨"com/example/keelstore/keelstore/layout/ConsumeQueueEntry", "equals", "(Ljava/lang/Object;)Z"⟩ : MethodName) prog_24_method_6_code 3 (some .boolean) ({ frames := 0, cells := 0, slots := 0, locals := 0 } : Room) ws Z n0 #[(.ref a), (.ref b)] h0 (Q5 Z n0 h0 a b p1 p2 p3 q1 q2 q3) := by
  refine Con.body pn_5 ?_
  intro p e s m below meth c s₁ hx hby hml hown hnm hret hlk hZ X0
  have hown : s.vm.findClass "com/example/keelstore/keelstore/layout/ConsumeQueueEntry" = some m.cls := hown
  have hnm : meth.name = "equals" := hnm
  rw [show entryFrame m #[(.ref a), (.ref b)] 3 = mkF m 0 #[.val (.ref a), .val (.ref b), .unset] [] from ef_rm5 m a b]
  show Go p e below (PostW s n0 (0 : Nat) (0 : Nat) (Q5 Z n0 h0 a b p1 p2 p3 q1 q2 q3)) s₁ (mkF m 0 #[.val (.ref a), .val (.ref b), .unset] [])
  refine Go.st (T' := s₁) (g' := (mkF m 1 #[.val (.ref a), .val (.ref b), .unset] [(.ref b)])) (fun t_ k_ => XS.aloadN X0.here hx rfl (hb hby d5_0) rfl rfl k_) ?_
  refine goInstY X0 hx hZ hown (hw _ (List.mem_of_getElem? (i := 33) rfl)) (Ins.self g0) (hb hby d5_1) fun T1 X1 => ?_
  show Go p e below _ T1 (mkF m 4 #[.val (.ref a), .val (.ref b), .unset] [(.int (1 : Int32))])
  refine Go.st (T' := T1) (g' := (mkF m 7 #[.val (.ref a), .val (.ref b), .unset] [])) (fun t_ k_ => XS.ifNo X1.here hx rfl (hb hby d5_4) rfl (by decide) k_) ?_
  refine Go.st (T' := T1) (g' := (mkF m 8 #[.val (.ref a), .val (.ref b), .unset] [(.ref b)])) (fun t_ k_ => XS.aloadN X1.here hx rfl (hb hby d5_7) rfl rfl k_) ?_
  refine goCast X1 hx hZ hown (hw _ (List.mem_of_getElem? (i := 33) rfl)) (Ins.self g0) (hb hby d5_8) fun T2 X2 => ?_
  show Go p e below _ T2 (mkF m 11 #[.val (.ref a), .val (.ref b), .unset] [(.ref b)])
  refine Go.st (T' := T2) (g' := (mkF m 12 #[.val (.ref a), .val (.ref b), .val (.ref b)] [])) (fun t_ k_ => XS.astoreN X2.here hx rfl (hb hby d5_11) rfl rfl (l' := #[.val (.ref a), .val (.ref b), .val (.ref b)]) rfl k_) ?_
  refine Go.st (T' := T2) (g' := (mkF m 13 #[.val (.ref a), .val (.ref b), .val (.ref b)] [(.ref a)])) (fun t_ k_ => XS.aloadN X2.here hx rfl (hb hby d5_12) rfl rfl k_) ?_
  refine goGet X2 hx hZ hown (host := "") (Or.inl (hw _ (List.mem_of_getElem? (i := 14) rfl))) Via.refl g1 (hb hby d5_13) fun T3 X3 => ?_
  show Go p e below _ T3 (mkF m 16 #[.val (.ref a), .val (.ref b), .val (.ref b)] [(.long p1)])
  refine Go.st (T' := T3) (g' := (mkF m 17 #[.val (.ref a), .val (.ref b), .val (.ref b)] [(.ref b), (.long p1)])) (fun t_ k_ => XS.aloadN X3.here hx rfl (hb hby d5_16) rfl rfl k_) ?_
  refine goGet X3 hx hZ hown (host := "") (Or.inl (hw _ (List.mem_of_getElem? (i := 14) rfl))) Via.refl g4 (hb hby d5_17) fun T4 X4 => ?_
  show Go p e below _ T4 (mkF m 20 #[.val (.ref a), .val (.ref b), .val (.ref b)] [(.long q1), (.long p1)])
  refine Go.st (T' := T4) (g' := (mkF m 21 #[.val (.ref a), .val (.ref b), .val (.ref b)] [(.int (lcmpW p1 q1))])) (fun t_ k_ => XS.lcmp X4.here hx rfl (hb hby d5_20) rfl k_) ?_
  by_cases hc21 : p1 = q1
  · skip
    refine Go.st (T' := T4) (g' := (mkF m 24 #[.val (.ref a), .val (.ref b), .val (.ref b)] [])) (fun t_ k_ => XS.ifNo X4.here hx rfl (hb hby d5_21) rfl (lcTeq hc21).2 k_) ?_
    refine Go.st (T' := T4) (g' := (mkF m 25 #[.val (.ref a), .val (.ref b), .val (.ref b)] [(.ref a)])) (fun t_ k_ => XS.aloadN X4.here hx rfl (hb hby d5_24) rfl rfl k_) ?_
    refine goGet X4 hx hZ hown (host := "") (Or.inl (hw _ (List.mem_of_getElem? (i := 16) rfl))) Via.refl g2 (hb hby d5_25) fun T5 X5 => ?_
    show Go p e below _ T5 (mkF m 28 #[.val (.ref a), .val (.ref b), .val (.ref b)] [(.int p2)])
    refine Go.st (T' := T5) (g' := (mkF m 29 #[.val (.ref a), .val (.ref b), .val (.ref b)] [(.ref b), (.int p2)])) (fun t_ k_ => XS.aloadN X5.here hx rfl (hb hby d5_28) rfl rfl k_) ?_
    refine goGet X5 hx hZ hown (host := "") (Or.inl (hw _ (List.mem_of_getElem? (i := 16) rfl))) Via.refl g5 (hb hby d5_29) fun T6 X6 => ?_
    show Go p e below _ T6 (mkF m 32 #[.val (.ref a), .val (.ref b), .val (.ref b)] [(.int q2), (.int p2)])
    by_cases hc32 : p2 = q2
    · skip
      refine Go.st (T' := T6) (g' := (mkF m 35 #[.val (.ref a), .val (.ref b), .val (.ref b)] [])) (fun t_ k_ => XS.icmpNo X6.here hx rfl (hb hby d5_32) rfl (teq hc32).2 k_) ?_
      refine Go.st (T' := T6) (g' := (mkF m 36 #[.val (.ref a), .val (.ref b), .val (.ref b)] [(.ref a)])) (fun t_ k_ => XS.aloadN X6.here hx rfl (hb hby d5_35) rfl rfl k_) ?_
      refine goGet X6 hx hZ hown (host := "") (Or.inl (hw _ (List.mem_of_getElem? (i := 18) rfl))) Via.refl g3 (hb hby d5_36) fun T7 X7 => ?_
      show Go p e below _ T7 (mkF m 39 #[.val (.ref a), .val (.ref b), .val (.ref b)] [(.long p3)])
      refine Go.st (T' := T7) (g' := (mkF m 40 #[.val (.ref a), .val (.ref b), .val (.ref b)] [(.ref b), (.long p3)])) (fun t_ k_ => XS.aloadN X7.here hx rfl (hb hby d5_39) rfl rfl k_) ?_
      refine goGet X7 hx hZ hown (host := "") (Or.inl (hw _ (List.mem_of_getElem? (i := 18) rfl))) Via.refl g6 (hb hby d5_40) fun T8 X8 => ?_
      show Go p e below _ T8 (mkF m 43 #[.val (.ref a), .val (.ref b), .val (.ref b)] [(.long q3), (.long p3)])
      refine Go.st (T' := T8) (g' := (mkF m 44 #[.val (.ref a), .val (.ref b), .val (.ref b)] [(.int (lcmpW p3 q3))])) (fun t_ k_ => XS.lcmp X8.here hx rfl (hb hby d5_43) rfl k_) ?_
      by_cases hc44 : p3 = q3
      · skip
        refine Go.st (T' := T8) (g' := (mkF m 47 #[.val (.ref a), .val (.ref b), .val (.ref b)] [])) (fun t_ k_ => XS.ifNo X8.here hx rfl (hb hby d5_44) rfl (lcTeq hc44).2 k_) ?_
        refine Go.st (T' := T8) (g' := (mkF m 48 #[.val (.ref a), .val (.ref b), .val (.ref b)] [(.int (1 : Int32))])) (fun t_ k_ => XS.iconst X8.here hx rfl (hb hby d5_47) k_) ?_
        refine Go.st (T' := T8) (g' := (mkF m 52 #[.val (.ref a), .val (.ref b), .val (.ref b)] [(.int (1 : Int32))])) (fun t_ k_ => XS.goto X8.here hx rfl (pc0 := 48) (pc' := 52) rfl (hb hby d5_48) (by decide) (by decide) k_) ?_
        refine goRetZ X8 hx hlk hret (hb hby d5_52) (by decide) (by decide) (Or.inr rfl) ?_
        refine ⟨(1 : Int32), rfl, rfl, ?_⟩
        · first | exact Or.inl ⟨rfl, hc21, hc32, hc44⟩ | exact Or.inr ⟨rfl, fun z => hc21 z.1⟩ | exact Or.inr ⟨rfl, fun z => hc32 z.2.1⟩ | exact Or.inr ⟨rfl, fun z => hc44 z.2.2⟩
      · skip
        refine Go.st (T' := T8) (g' := (mkF m 51 #[.val (.ref a), .val (.ref b), .val (.ref b)] [])) (fun t_ k_ => XS.ifYes X8.here hx rfl (pc0 := 44) (pc' := 51) rfl (hb hby d5_44) rfl (lcFeq hc44).2 (by decide) (by decide) k_) ?_
        refine Go.st (T' := T8) (g' := (mkF m 52 #[.val (.ref a), .val (.ref b), .val (.ref b)] [(.int (0 : Int32))])) (fun t_ k_ => XS.iconst X8.here hx rfl (hb hby d5_51) k_) ?_
        refine goRetZ X8 hx hlk hret (hb hby d5_52) (by decide) (by decide) (Or.inl rfl) ?_
        refine ⟨(0 : Int32), rfl, rfl, ?_⟩
        · first | exact Or.inl ⟨rfl, hc21, hc32, hc44⟩ | exact Or.inr ⟨rfl, fun z => hc21 z.1⟩ | exact Or.inr ⟨rfl, fun z => hc32 z.2.1⟩ | exact Or.inr ⟨rfl, fun z => hc44 z.2.2⟩
    · skip
      refine Go.st (T' := T6) (g' := (mkF m 51 #[.val (.ref a), .val (.ref b), .val (.ref b)] [])) (fun t_ k_ => XS.icmpYes X6.here hx rfl (pc0 := 32) (pc' := 51) rfl (hb hby d5_32) rfl (feq hc32).2 (by decide) (by decide) k_) ?_
      refine Go.st (T' := T6) (g' := (mkF m 52 #[.val (.ref a), .val (.ref b), .val (.ref b)] [(.int (0 : Int32))])) (fun t_ k_ => XS.iconst X6.here hx rfl (hb hby d5_51) k_) ?_
      refine goRetZ X6 hx hlk hret (hb hby d5_52) (by decide) (by decide) (Or.inl rfl) ?_
      refine ⟨(0 : Int32), rfl, rfl, ?_⟩
      · first | exact Or.inl ⟨rfl, hc21, hc32, hc44⟩ | exact Or.inr ⟨rfl, fun z => hc21 z.1⟩ | exact Or.inr ⟨rfl, fun z => hc32 z.2.1⟩ | exact Or.inr ⟨rfl, fun z => hc44 z.2.2⟩
  · skip
    refine Go.st (T' := T4) (g' := (mkF m 51 #[.val (.ref a), .val (.ref b), .val (.ref b)] [])) (fun t_ k_ => XS.ifYes X4.here hx rfl (pc0 := 21) (pc' := 51) rfl (hb hby d5_21) rfl (lcFeq hc21).2 (by decide) (by decide) k_) ?_
    refine Go.st (T' := T4) (g' := (mkF m 52 #[.val (.ref a), .val (.ref b), .val (.ref b)] [(.int (0 : Int32))])) (fun t_ k_ => XS.iconst X4.here hx rfl (hb hby d5_51) k_) ?_
    refine goRetZ X4 hx hlk hret (hb hby d5_52) (by decide) (by decide) (Or.inl rfl) ?_
    refine ⟨(0 : Int32), rfl, rfl, ?_⟩
    · first | exact Or.inl ⟨rfl, hc21, hc32, hc44⟩ | exact Or.inr ⟨rfl, fun z => hc21 z.1⟩ | exact Or.inr ⟨rfl, fun z => hc32 z.2.1⟩ | exact Or.inr ⟨rfl, fun z => hc44 z.2.2⟩
theorem ef_rmEqN (m : MethodId) (x0 : Addr) : entryFrame m #[(.ref x0), .null] 3 = mkF m 0 #[.val (.ref x0), .val .null, .unset] [] := by first | (simp [entryFrame, mkF, argsToLocals, Value.category]; done) | rfl
def QEqN (Z : State) (n0 : Nat) (h0 : Heap) (a : Addr) (v : Option Value) (h : Heap) : Prop := v = some (.int (0 : Int32)) ∧ h = h0
set_option maxRecDepth 65536 in
set_option maxHeartbeats 40000000 in
theorem rmEqN (l : Launch) (Z : State) (a0 : Array Value) (hw : ∀ d ∈ tables_1, d.before a0 Z = true) (ws : List Jvm.Cond) (n0 : Nat) (h0 : Heap) (a : Addr) (sz0 : n0 ≤ h0.size) :
    Con l (⟨"com/example/keelstore/keelstore/layout/ConsumeQueueEntry", "equals", "(Ljava/lang/Object;)Z"⟩ : MethodName) prog_24_method_6_code 3 (some .boolean) ({ frames := 0, cells := 0, slots := 0, locals := 0 } : Room) ws Z n0 #[(.ref a), .null] h0 (QEqN Z n0 h0 a) := by
  refine Con.body pn_5 ?_
  intro p e s m below meth c s₁ hx hby hml hown hnm hret hlk hZ X0
  have hown : s.vm.findClass "com/example/keelstore/keelstore/layout/ConsumeQueueEntry" = some m.cls := hown
  have hnm : meth.name = "equals" := hnm
  rw [show entryFrame m #[(.ref a), .null] 3 = mkF m 0 #[.val (.ref a), .val .null, .unset] [] from ef_rmEqN m a]
  show Go p e below (PostW s n0 (0 : Nat) (0 : Nat) (QEqN Z n0 h0 a)) s₁ (mkF m 0 #[.val (.ref a), .val .null, .unset] [])
  refine Go.st (T' := s₁) (g' := (mkF m 1 #[.val (.ref a), .val .null, .unset] [.null])) (fun t_ k_ => XS.aloadN X0.here hx rfl (hb hby d5_0) rfl rfl k_) ?_
  refine goInstNull X0 hx (hb hby d5_1) ?_
  show Go p e below _ s₁ (mkF m 4 #[.val (.ref a), .val .null, .unset] [(.int (0 : Int32))])
  refine Go.st (T' := s₁) (g' := (mkF m 51 #[.val (.ref a), .val .null, .unset] [])) (fun t_ k_ => XS.ifYes X0.here hx rfl (pc0 := 4) (pc' := 51) rfl (hb hby d5_4) rfl (by decide) (by decide) (by decide) k_) ?_
  refine Go.st (T' := s₁) (g' := (mkF m 52 #[.val (.ref a), .val .null, .unset] [(.int (0 : Int32))])) (fun t_ k_ => XS.iconst X0.here hx rfl (hb hby d5_51) k_) ?_
  refine goRetZ X0 hx hlk hret (hb hby d5_52) (by decide) (by decide) (Or.inl rfl) ?_
  refine ⟨rfl, rfl⟩
theorem ef_rmEqL (m : MethodId) (x0 : Addr) (x1 : Addr) : entryFrame m #[(.ref x0), (.ref x1)] 3 = mkF m 0 #[.val (.ref x0), .val (.ref x1), .unset] [] := by first | (simp [entryFrame, mkF, argsToLocals, Value.category]; done) | rfl
def QEqL (Z : State) (n0 : Nat) (h0 : Heap) (a : Addr) (b : Addr) (v : Option Value) (h : Heap) : Prop := v = some (.int (0 : Int32)) ∧ h = h0
set_option maxRecDepth 65536 in
set_option maxHeartbeats 40000000 in
theorem rmEqL (l : Launch) (Z : State) (a0 : Array Value) (hw : ∀ d ∈ tables_1, d.before a0 Z = true) (ws : List Jvm.Cond) (n0 : Nat) (h0 : Heap) (a : Addr) (b : Addr) (sz0 : n0 ≤ h0.size) (g0 : Exa Z h0 b "java/lang/Long") :
    Con l (⟨"com/example/keelstore/keelstore/layout/ConsumeQueueEntry", "equals", "(Ljava/lang/Object;)Z"⟩ : MethodName) prog_24_method_6_code 3 (some .boolean) ({ frames := 0, cells := 0, slots := 0, locals := 0 } : Room) ws Z n0 #[(.ref a), (.ref b)] h0 (QEqL Z n0 h0 a b) := by
  refine Con.body pn_5 ?_
  intro p e s m below meth c s₁ hx hby hml hown hnm hret hlk hZ X0
  have hown : s.vm.findClass "com/example/keelstore/keelstore/layout/ConsumeQueueEntry" = some m.cls := hown
  have hnm : meth.name = "equals" := hnm
  rw [show entryFrame m #[(.ref a), (.ref b)] 3 = mkF m 0 #[.val (.ref a), .val (.ref b), .unset] [] from ef_rmEqL m a b]
  show Go p e below (PostW s n0 (0 : Nat) (0 : Nat) (QEqL Z n0 h0 a b)) s₁ (mkF m 0 #[.val (.ref a), .val (.ref b), .unset] [])
  refine Go.st (T' := s₁) (g' := (mkF m 1 #[.val (.ref a), .val (.ref b), .unset] [(.ref b)])) (fun t_ k_ => XS.aloadN X0.here hx rfl (hb hby d5_0) rfl rfl k_) ?_
  refine goInstNo X0 hx hZ hown (hw _ (List.mem_of_getElem? (i := 33) rfl)) g0 (own_nolong hw) (hb hby d5_1) fun T1 X1 => ?_
  show Go p e below _ T1 (mkF m 4 #[.val (.ref a), .val (.ref b), .unset] [(.int (0 : Int32))])
  refine Go.st (T' := T1) (g' := (mkF m 51 #[.val (.ref a), .val (.ref b), .unset] [])) (fun t_ k_ => XS.ifYes X1.here hx rfl (pc0 := 4) (pc' := 51) rfl (hb hby d5_4) rfl (by decide) (by decide) (by decide) k_) ?_
  refine Go.st (T' := T1) (g' := (mkF m 52 #[.val (.ref a), .val (.ref b), .unset] [(.int (0 : Int32))])) (fun t_ k_ => XS.iconst X1.here hx rfl (hb hby d5_51) k_) ?_
  refine goRetZ X1 hx hlk hret (hb hby d5_52) (by decide) (by decide) (Or.inl rfl) ?_
  refine ⟨rfl, rfl⟩
theorem d9_0 : decode jdk_35_method_36_code 0 = .ok (.lload_n 0, 1) := by decide +kernel
theorem d9_1 : decode jdk_35_method_36_code 1 = .ok (.lload_n 0, 1) := by decide +kernel
theorem d9_2 : decode jdk_35_method_36_code 2 = .ok (.bipush 32, 2) := by decide +kernel
theorem d9_4 : decode jdk_35_method_36_code 4 = .ok (.lushr, 1) := by decide +kernel
theorem d9_5 : decode jdk_35_method_36_code 5 = .ok (.lxor, 1) := by decide +kernel
theorem d9_6 : decode jdk_35_method_36_code 6 = .ok (.l2i, 1) := by decide +kernel
theorem d9_7 : decode jdk_35_method_36_code 7 = .ok (.ireturn, 1) := by decide +kernel
theorem pn_9 : plainFor (⟨"java/lang/Long", "hashCode", "(J)I"⟩ : MethodName) = true := plainFor_of_name (by first | (simp [plainName, overriddenIn]; done) | decide +kernel)
theorem ef_rm9 (m : MethodId) (x0 : Int64) : entryFrame m #[(.long x0)] 2 = mkF m 0 #[.val (.long x0), .second] [] := by first | (simp [entryFrame, mkF, argsToLocals, Value.category]; done) | rfl
def Q9 (Z : State) (n0 : Nat) (h0 : Heap) (q : Int64) (v : Option Value) (h : Heap) : Prop := v = some (.int (own_h q)) ∧ h = h0
set_option maxRecDepth 65536 in
set_option maxHeartbeats 40000000 in
theorem rm9 (l : Launch) (Z : State) (a0 : Array Value) (hw : ∀ d ∈ tables_1, d.before a0 Z = true) (ws : List Jvm.Cond) (n0 : Nat) (h0 : Heap) (q : Int64) (sz0 : n0 ≤ h0.size) :
    Con l (⟨"java/lang/Long", "hashCode", "(J)I"⟩ : MethodName) jdk_35_method_36_code 2 (some .int) ({ frames := 0, cells := 0, slots := 0, locals := 0 } : Room) ws Z n0 #[(.long q)] h0 (Q9 Z n0 h0 q) := by
  refine Con.body pn_9 ?_
  intro p e s m below meth c s₁ hx hby hml hown hnm hret hlk hZ X0
  have hown : s.vm.findClass "java/lang/Long" = some m.cls := hown
  have hnm : meth.name = "hashCode" := hnm
  rw [show entryFrame m #[(.long q)] 2 = mkF m 0 #[.val (.long q), .second] [] from ef_rm9 m q]
  show Go p e below (PostW s n0 (0 : Nat) (0 : Nat) (Q9 Z n0 h0 q)) s₁ (mkF m 0 #[.val (.long q), .second] [])
  refine Go.st (T' := s₁) (g' := (mkF m 1 #[.val (.long q), .second] [(.long q)])) (fun t_ k_ => XS.lloadN X0.here hx rfl (hb hby d9_0) rfl k_) ?_
  refine Go.st (T' := s₁) (g' := (mkF m 2 #[.val (.long q), .second] [(.long q), (.long q)])) (fun t_ k_ => XS.lloadN X0.here hx rfl (hb hby d9_1) rfl k_) ?_
  refine Go.st (T' := s₁) (g' := (mkF m 4 #[.val (.long q), .second] [(.int (32 : Int32)), (.long q), (.long q)])) (fun t_ k_ => XS.bipush X0.here hx rfl (hb hby d9_2) k_) ?_
  refine Go.st (T' := s₁) (g' := (mkF m 5 #[.val (.long q), .second] [(.long ((q.toUInt64 >>> ((32 : Int32) &&& 0x3f).toInt64.toUInt64).toInt64)), (.long q)])) (fun t_ k_ => XS.lushr X0.here hx rfl (hb hby d9_4) rfl k_) ?_
  refine Go.st (T' := s₁) (g' := (mkF m 6 #[.val (.long q), .second] [(.long (q ^^^ ((q.toUInt64 >>> ((32 : Int32) &&& 0x3f).toInt64.toUInt64).toInt64)))])) (fun t_ k_ => XS.lxor X0.here hx rfl (hb hby d9_5) rfl k_) ?_
  refine Go.st (T' := s₁) (g' := (mkF m 7 #[.val (.long q), .second] [(.int ((q ^^^ ((q.toUInt64 >>> ((32 : Int32) &&& 0x3f).toInt64.toUInt64).toInt64)).toInt32))])) (fun t_ k_ => XS.l2i X0.here hx rfl (hb hby d9_6) rfl k_) ?_
  refine goRetI X0 hx hlk hret (hb hby d9_7) (by decide) (by decide) ?_
  refine ⟨rfl, rfl⟩
theorem d8_0 : decode prog_24_method_7_code 0 = .ok (.bipush 31, 2) := by decide +kernel
theorem d8_2 : decode prog_24_method_7_code 2 = .ok (.aload_n 0, 1) := by decide +kernel
theorem d8_3 : decode prog_24_method_7_code 3 = .ok (.getfield 7, 3) := by decide +kernel
theorem d8_6 : decode prog_24_method_7_code 6 = .ok (.invokestatic 47, 3) := by decide +kernel
theorem d8_9 : decode prog_24_method_7_code 9 = .ok (.imul, 1) := by decide +kernel
theorem d8_10 : decode prog_24_method_7_code 10 = .ok (.aload_n 0, 1) := by decide +kernel
theorem d8_11 : decode prog_24_method_7_code 11 = .ok (.getfield 13, 3) := by decide +kernel
theorem d8_14 : decode prog_24_method_7_code 14 = .ok (.iadd, 1) := by decide +kernel
theorem d8_15 : decode prog_24_method_7_code 15 = .ok (.bipush 31, 2) := by decide +kernel
theorem d8_17 : decode prog_24_method_7_code 17 = .ok (.imul, 1) := by decide +kernel
theorem d8_18 : decode prog_24_method_7_code 18 = .ok (.aload_n 0, 1) := by decide +kernel
theorem d8_19 : decode prog_24_method_7_code 19 = .ok (.getfield 17, 3) := by decide +kernel
theorem d8_22 : decode prog_24_method_7_code 22 = .ok (.invokestatic 47, 3) := by decide +kernel
theorem d8_25 : decode prog_24_method_7_code 25 = .ok (.iadd, 1) := by decide +kernel
theorem d8_26 : decode prog_24_method_7_code 26 = .ok (.ireturn, 1) := by decide +kernel
theorem pn_8 : plainFor (⟨"com/example/keelstore/keelstore/layout/ConsumeQueueEntry", "hashCode", "()I"⟩ : MethodName) = true := plainFor_of_name (by first | (simp [plainName, overriddenIn]; done) | decide +kernel)
theorem pd_72893604 : parseMethodDescriptor "(J)I" = some ⟨[.long], some .int⟩ := by decide +kernel
theorem ef_rm8 (m : MethodId) (x0 : Addr) : entryFrame m #[(.ref x0)] 1 = mkF m 0 #[.val (.ref x0)] [] := by first | (simp [entryFrame, mkF, argsToLocals, Value.category]; done) | rfl
def Q8 (Z : State) (n0 : Nat) (h0 : Heap) (a : Addr) (p1 : Int64) (p2 : Int32) (p3 : Int64) (v : Option Value) (h : Heap) : Prop := v = some (.int ((((31 : Int32) * own_h p1) + p2) * (31 : Int32) + own_h p3)) ∧ h = h0
set_option maxRecDepth 65536 in
set_option maxHeartbeats 40000000 in
theorem rm8 (l : Launch) (Z : State) (a0 : Array Value) (hw : ∀ d ∈ tables_1, d.before a0 Z = true) (ws : List Jvm.Cond) (n0 : Nat) (h0 : Heap) (a : Addr) (p1 : Int64) (p2 : Int32) (p3 : Int64) (sz0 : n0 ≤ h0.size) (g0 : Fld Z h0 a "com/example/keelstore/keelstore/layout/ConsumeQueueEntry" "physicalOffset" "J" (.long p1)) (g1 : Fld Z h0 a "com/example/keelstore/keelstore/layout/ConsumeQueueEntry" "size" "I" (.int p2)) (g2 : Fld Z h0 a "com/example/keelstore/keelstore/layout/ConsumeQueueEntry" "tagHash" "J" (.long p3)) :
    Con l (⟨"com/example/keelstore/keelstore/layout/ConsumeQueueEntry", "hashCode", "()I"⟩ : MethodName) prog_24_method_7_code 1 (some .int) ({ frames := 1, cells := 0, slots := 0, locals := 20 } : Room) ws Z n0 #[(.ref a)] h0 (Q8 Z n0 h0 a p1 p2 p3) := by
  refine Con.body pn_8 ?_
  intro p e s m below meth c s₁ hx hby hml hown hnm hret hlk hZ X0
  have hown : s.vm.findClass "com/example/keelstore/keelstore/layout/ConsumeQueueEntry" = some m.cls := hown
  have hnm : meth.name = "hashCode" := hnm
  rw [show entryFrame m #[(.ref a)] 1 = mkF m 0 #[.val (.ref a)] [] from ef_rm8 m a]
  show Go p e below (PostW s n0 (0 : Nat) (0 : Nat) (Q8 Z n0 h0 a p1 p2 p3)) s₁ (mkF m 0 #[.val (.ref a)] [])
  refine Go.st (T' := s₁) (g' := (mkF m 2 #[.val (.ref a)] [(.int (31 : Int32))])) (fun t_ k_ => XS.bipush X0.here hx rfl (hb hby d8_0) k_) ?_
  refine Go.st (T' := s₁) (g' := (mkF m 3 #[.val (.ref a)] [(.ref a), (.int (31 : Int32))])) (fun t_ k_ => XS.aloadN X0.here hx rfl (hb hby d8_2) rfl rfl k_) ?_
  refine goGet X0 hx hZ hown (host := "") (Or.inl (hw _ (List.mem_of_getElem? (i := 14) rfl))) Via.refl g0 (hb hby d8_3) fun T1 X1 => ?_
  show Go p e below _ T1 (mkF m 6 #[.val (.ref a)] [(.long p1), (.int (31 : Int32))])
  refine goStatic X1 hx hZ (y := (⟨"java/lang/Long", "hashCode", "(J)I"⟩ : MethodName)) hown (hw _ (List.mem_of_getElem? (i := 58) rfl)) (hw _ (List.mem_of_getElem? (i := 59) rfl)) (hw _ (List.mem_of_getElem? (i := 22) rfl)) (hw _ (List.mem_of_getElem? (i := 60) rfl)) (by decide) (rm9 l Z a0 hw [] n0 h0 p1 sz0) 1 (by decide) (by decide) (by rw [hml]; rfl) [(.long p1)] [(.int (31 : Int32))] (lenOf pd_72893604 rfl) rfl rfl rfl (hb hby d8_6) (by decide) (by decide) fun v2 T2 h2 X2 hq2 => ?_
  obtain ⟨rfl, eh2⟩ := hq2
  rw [eh2] at X2
  show Go p e below _ T2 (mkF m 9 #[.val (.ref a)] [(.int (own_h p1)), (.int (31 : Int32))])
  refine Go.st (T' := T2) (g' := (mkF m 10 #[.val (.ref a)] [(.int ((31 : Int32) * (own_h p1)))])) (fun t_ k_ => XS.imul X2.here hx rfl (hb hby d8_9) rfl k_) ?_
  refine Go.st (T' := T2) (g' := (mkF m 11 #[.val (.ref a)] [(.ref a), (.int ((31 : Int32) * (own_h p1)))])) (fun t_ k_ => XS.aloadN X2.here hx rfl (hb hby d8_10) rfl rfl k_) ?_
  refine goGet X2 hx hZ hown (host := "") (Or.inl (hw _ (List.mem_of_getElem? (i := 16) rfl))) Via.refl g1 (hb hby d8_11) fun T3 X3 => ?_
  show Go p e below _ T3 (mkF m 14 #[.val (.ref a)] [(.int p2), (.int ((31 : Int32) * (own_h p1)))])
  refine Go.st (T' := T3) (g' := (mkF m 15 #[.val (.ref a)] [(.int (((31 : Int32) * (own_h p1)) + p2))])) (fun t_ k_ => XS.iadd X3.here hx rfl (hb hby d8_14) rfl k_) ?_
  refine Go.st (T' := T3) (g' := (mkF m 17 #[.val (.ref a)] [(.int (31 : Int32)), (.int (((31 : Int32) * (own_h p1)) + p2))])) (fun t_ k_ => XS.bipush X3.here hx rfl (hb hby d8_15) k_) ?_
  refine Go.st (T' := T3) (g' := (mkF m 18 #[.val (.ref a)] [(.int ((((31 : Int32) * (own_h p1)) + p2) * (31 : Int32)))])) (fun t_ k_ => XS.imul X3.here hx rfl (hb hby d8_17) rfl k_) ?_
  refine Go.st (T' := T3) (g' := (mkF m 19 #[.val (.ref a)] [(.ref a), (.int ((((31 : Int32) * (own_h p1)) + p2) * (31 : Int32)))])) (fun t_ k_ => XS.aloadN X3.here hx rfl (hb hby d8_18) rfl rfl k_) ?_
  refine goGet X3 hx hZ hown (host := "") (Or.inl (hw _ (List.mem_of_getElem? (i := 18) rfl))) Via.refl g2 (hb hby d8_19) fun T4 X4 => ?_
  show Go p e below _ T4 (mkF m 22 #[.val (.ref a)] [(.long p3), (.int ((((31 : Int32) * (own_h p1)) + p2) * (31 : Int32)))])
  refine goStatic X4 hx hZ (y := (⟨"java/lang/Long", "hashCode", "(J)I"⟩ : MethodName)) hown (hw _ (List.mem_of_getElem? (i := 58) rfl)) (hw _ (List.mem_of_getElem? (i := 59) rfl)) (hw _ (List.mem_of_getElem? (i := 22) rfl)) (hw _ (List.mem_of_getElem? (i := 60) rfl)) (by decide) (rm9 l Z a0 hw [] n0 h0 p3 sz0) 1 (by decide) (by decide) (by rw [hml]; rfl) [(.long p3)] [(.int ((((31 : Int32) * (own_h p1)) + p2) * (31 : Int32)))] (lenOf pd_72893604 rfl) rfl rfl rfl (hb hby d8_22) (by decide) (by decide) fun v5 T5 h5 X5 hq5 => ?_
  obtain ⟨rfl, eh5⟩ := hq5
  rw [eh5] at X5
  show Go p e below _ T5 (mkF m 25 #[.val (.ref a)] [(.int (own_h p3)), (.int ((((31 : Int32) * (own_h p1)) + p2) * (31 : Int32)))])
  refine Go.st (T' := T5) (g' := (mkF m 26 #[.val (.ref a)] [(.int (((((31 : Int32) * (own_h p1)) + p2) * (31 : Int32)) + (own_h p3)))])) (fun t_ k_ => XS.iadd X5.here hx rfl (hb hby d8_25) rfl k_) ?_
  refine goRetI X5 hx hlk hret (hb hby d8_26) (by decide) (by decide) ?_
  refine ⟨rfl, rfl⟩

theorem own_isx {e : Int32} {p q : Int64} {p' q' : Int32} {p'' q'' : Int64} (h : e = (if p = q then (if p' = q' then (if p'' = q'' then (1 : Int32) else (0 : Int32)) else (0 : Int32)) else (0 : Int32))) : own_is e (p = q ∧ p' = q' ∧ p'' = q'') := by
  by_cases z1 : p = q <;> by_cases z2 : p' = q' <;> by_cases z3 : p'' = q'' <;> simp [own_is, h, z1, z2, z3]
theorem own_isT {e : Int32} {P : Prop} (h : own_is e P) (n : ¬ e = 0) : P := h.elim (·.2) (fun q => absurd q.1 n)

theorem pn_0 : plainFor x = true := plainFor_of_name (by first | (simp [plainName, overriddenIn]; done) | decide +kernel)
theorem pd_1521129b : parseMethodDescriptor "(JIJ)V" = some ⟨[.long, .int, .long], none⟩ := by decide +kernel
theorem pd_c9fc8cea : parseMethodDescriptor "(J)Ljava/lang/Long;" = some ⟨[.long], some (.object "java/lang/Long")⟩ := by decide +kernel
theorem pd_c9909b14 : parseMethodDescriptor "(Ljava/lang/Object;)Z" = some ⟨[(.object "java/lang/Object")], some .boolean⟩ := by decide +kernel
theorem pd_8259a895 : parseMethodDescriptor "()I" = some ⟨[], some .int⟩ := by decide +kernel
theorem ef_rm0 (m : MethodId) (x0 : Int64) (x1 : Int32) (x2 : Int64) (x3 : Int32) (x4 : Int64) (x5 : Int64) : entryFrame m #[(.long x0), (.int x1), (.long x2), (.int x3), (.long x4), (.long x5)] maxLocals = mkF m 0 #[.val (.long x0), .second, .val (.int x1), .val (.long x2), .second, .val (.int x3), .val (.long x4), .second, .val (.long x5), .second, .unset, .unset, .unset, .unset, .unset, .unset, .unset, .unset, .unset, .unset, .unset, .unset, .unset, .unset, .unset, .unset] [] := by first | (simp [entryFrame, mkF, argsToLocals, Value.category, maxLocals]; done) | rfl
def Q0 (Z : State) (n0 : Nat) (h0 : Heap) (p1 : Int64) (p2 : Int32) (p3 : Int64) (sl : Int32) (d1 : Int64) (d3 : Int64) (wc : Addr) (fc : Nat → Value) (v : Option Value) (h : Heap) : Prop := v = some (.int (1 : Int32))
set_option maxRecDepth 65536 in
set_option maxHeartbeats 40000000 in
theorem rm0 (l : Launch) (Z : State) (a0 : Array Value) (hw : ∀ d ∈ tables_1, d.before a0 Z = true) (ws : List Jvm.Cond) (n0 : Nat) (h0 : Heap) (p1 : Int64) (p2 : Int32) (p3 : Int64) (sl : Int32) (d1 : Int64) (d3 : Int64) (wc : Addr) (fc : Nat → Value) (sz0 : n0 ≤ h0.size) (g0 : Sta Z h0 "java/lang/Long$LongCache" "cache" "[Ljava/lang/Long;" (.ref wc)) (g1 : Ary Z h0 wc (.object "java/lang/Long") 256 fc) (g2 : ∀ i, i < 256 → ∃ w, fc i = .ref w ∧ Exa Z h0 w "java/lang/Long") :
    Con l x code maxLocals ret room_1 ws Z n0 #[(.long p1), (.int p2), (.long p3), (.int sl), (.long d1), (.long d3)] h0 (Q0 Z n0 h0 p1 p2 p3 sl d1 d3 wc fc) := by
  refine Con.body pn_0 ?_
  intro p e s m below meth c s₁ hx hby hml hown hnm hret hlk hZ X0
  have hown : s.vm.findClass "com/example/keelstore/keelstore/layout/ConsumeQueueEntryEqualsPinLaw" = some m.cls := hown
  have hnm : meth.name = "law" := hnm
  have hml : c.maxLocals = 26 := hml
  have hret : meth.sig.returnType = some .boolean := hret
  rw [show entryFrame m #[(.long p1), (.int p2), (.long p3), (.int sl), (.long d1), (.long d3)] maxLocals = mkF m 0 #[.val (.long p1), .second, .val (.int p2), .val (.long p3), .second, .val (.int sl), .val (.long d1), .second, .val (.long d3), .second, .unset, .unset, .unset, .unset, .unset, .unset, .unset, .unset, .unset, .unset, .unset, .unset, .unset, .unset, .unset, .unset] [] from ef_rm0 m p1 p2 p3 sl d1 d3]
  show Go p e below (PostW s n0 room_1.cells room_1.slots (Q0 Z n0 h0 p1 p2 p3 sl d1 d3 wc fc)) s₁ (mkF m 0 #[.val (.long p1), .second, .val (.int p2), .val (.long p3), .second, .val (.int sl), .val (.long d1), .second, .val (.long d3), .second, .unset, .unset, .unset, .unset, .unset, .unset, .unset, .unset, .unset, .unset, .unset, .unset, .unset, .unset, .unset, .unset] [])
  refine Go.st (T' := s₁) (g' := (mkF m 2 #[.val (.long p1), .second, .val (.int p2), .val (.long p3), .second, .val (.int sl), .val (.long d1), .second, .val (.long d3), .second, .unset, .unset, .unset, .unset, .unset, .unset, .unset, .unset, .unset, .unset, .unset, .unset, .unset, .unset, .unset, .unset] [(.int sl)])) (fun t_ k_ => XS.iload X0.here hx rfl (hb hby at_0) rfl k_) ?_
  refine Go.st (T' := s₁) (g' := (mkF m 3 #[.val (.long p1), .second, .val (.int p2), .val (.long p3), .second, .val (.int sl), .val (.long d1), .second, .val (.long d3), .second, .unset, .unset, .unset, .unset, .unset, .unset, .unset, .unset, .unset, .unset, .unset, .unset, .unset, .unset, .unset, .unset] [(.int (1 : Int32)), (.int sl)])) (fun t_ k_ => XS.iconst X0.here hx rfl (hb hby at_2) k_) ?_
  refine Go.st (T' := s₁) (g' := (mkF m 4 #[.val (.long p1), .second, .val (.int p2), .val (.long p3), .second, .val (.int sl), .val (.long d1), .second, .val (.long d3), .second, .unset, .unset, .unset, .unset, .unset, .unset, .unset, .unset, .unset, .unset, .unset, .unset, .unset, .unset, .unset, .unset] [(.int (sl &&& (1 : Int32)))])) (fun t_ k_ => XS.iand X0.here hx rfl (hb hby at_3) rfl k_) ?_
  have J15_1 : ∀ (y1 : Int64), y1 = (if (sl &&& (1 : Int32)) = (0 : Int32) then (p1 + d1) else p1) → Go p e below (PostW s n0 room_1.cells room_1.slots (Q0 Z n0 h0 p1 p2 p3 sl d1 d3 wc fc)) s₁ (mkF m 15 #[.val (.long p1), .second, .val (.int p2), .val (.long p3), .second, .val (.int sl), .val (.long d1), .second, .val (.long d3), .second, .unset, .unset, .unset, .unset, .unset, .unset, .unset, .unset, .unset, .unset, .unset, .unset, .unset, .unset, .unset, .unset] [(.long y1)]) := by
    intro y1 h_y1
    refine Go.st (T' := s₁) (g' := (mkF m 17 #[.val (.long p1), .second, .val (.int p2), .val (.long p3), .second, .val (.int sl), .val (.long d1), .second, .val (.long d3), .second, .val (.long y1), .second, .unset, .unset, .unset, .unset, .unset, .unset, .unset, .unset, .unset, .unset, .unset, .unset, .unset, .unset] [])) (fun t_ k_ => XS.lstore X0.here hx rfl (hb hby at_15) rfl (l' := #[.val (.long p1), .second, .val (.int p2), .val (.long p3), .second, .val (.int sl), .val (.long d1), .second, .val (.long d3), .second, .val (.long y1), .second, .unset, .unset, .unset, .unset, .unset, .unset, .unset, .unset, .unset, .unset, .unset, .unset, .unset, .unset]) rfl k_) ?_
    refine Go.st (T' := s₁) (g' := (mkF m 19 #[.val (.long p1), .second, .val (.int p2), .val (.long p3), .second, .val (.int sl), .val (.long d1), .second, .val (.long d3), .second, .val (.long y1), .second, .unset, .unset, .unset, .unset, .unset, .unset, .unset, .unset, .unset, .unset, .unset, .unset, .unset, .unset] [(.int sl)])) (fun t_ k_ => XS.iload X0.here hx rfl (hb hby at_17) rfl k_) ?_
    refine Go.st (T' := s₁) (g' := (mkF m 20 #[.val (.long p1), .second, .val (.int p2), .val (.long p3), .second, .val (.int sl), .val (.long d1), .second, .val (.long d3), .second, .val (.long y1), .second, .unset, .unset, .unset, .unset, .unset, .unset, .unset, .unset, .unset, .unset, .unset, .unset, .unset, .unset] [(.int (2 : Int32)), (.int sl)])) (fun t_ k_ => XS.iconst X0.here hx rfl (hb hby at_19) k_) ?_
    refine Go.st (T' := s₁) (g' := (mkF m 21 #[.val (.long p1), .second, .val (.int p2), .val (.long p3), .second, .val (.int sl), .val (.long d1), .second, .val (.long d3), .second, .val (.long y1), .second, .unset, .unset, .unset, .unset, .unset, .unset, .unset, .unset, .unset, .unset, .unset, .unset, .unset, .unset] [(.int (sl &&& (2 : Int32)))])) (fun t_ k_ => XS.iand X0.here hx rfl (hb hby at_20) rfl k_) ?_
    have J34_2 : ∀ (y2 : Int32), y2 = (if (sl &&& (2 : Int32)) = (0 : Int32) then (p2 + (sl >>> ((3 : Int32) &&& 31))) else p2) → Go p e below (PostW s n0 room_1.cells room_1.slots (Q0 Z n0 h0 p1 p2 p3 sl d1 d3 wc fc)) s₁ (mkF m 34 #[.val (.long p1), .second, .val (.int p2), .val (.long p3), .second, .val (.int sl), .val (.long d1), .second, .val (.long d3), .second, .val (.long y1), .second, .unset, .unset, .unset, .unset, .unset, .unset, .unset, .unset, .unset, .unset, .unset, .unset, .unset, .unset] [(.int y2)]) := by
      intro y2 h_y2
      refine Go.st (T' := s₁) (g' := (mkF m 36 #[.val (.long p1), .second, .val (.int p2), .val (.long p3), .second, .val (.int sl), .val (.long d1), .second, .val (.long d3), .second, .val (.long y1), .second, .val (.int y2), .unset, .unset, .unset, .unset, .unset, .unset, .unset, .unset, .unset, .unset, .unset, .unset, .unset] [])) (fun t_ k_ => XS.istore X0.here hx rfl (hb hby at_34) rfl (l' := #[.val (.long p1), .second, .val (.int p2), .val (.long p3), .second, .val (.int sl), .val (.long d1), .second, .val (.long d3), .second, .val (.long y1), .second, .val (.int y2), .unset, .unset, .unset, .unset, .unset, .unset, .unset, .unset, .unset, .unset, .unset, .unset, .unset]) rfl k_) ?_
      refine Go.st (T' := s₁) (g' := (mkF m 38 #[.val (.long p1), .second, .val (.int p2), .val (.long p3), .second, .val (.int sl), .val (.long d1), .second, .val (.long d3), .second, .val (.long y1), .second, .val (.int y2), .unset, .unset, .unset, .unset, .unset, .unset, .unset, .unset, .unset, .unset, .unset, .unset, .unset] [(.int sl)])) (fun t_ k_ => XS.iload X0.here hx rfl (hb hby at_36) rfl k_) ?_
      refine Go.st (T' := s₁) (g' := (mkF m 39 #[.val (.long p1), .second, .val (.int p2), .val (.long p3), .second, .val (.int sl), .val (.long d1), .second, .val (.long d3), .second, .val (.long y1), .second, .val (.int y2), .unset, .unset, .unset, .unset, .unset, .unset, .unset, .unset, .unset, .unset, .unset, .unset, .unset] [(.int (4 : Int32)), (.int sl)])) (fun t_ k_ => XS.iconst X0.here hx rfl (hb hby at_38) k_) ?_
      refine Go.st (T' := s₁) (g' := (mkF m 40 #[.val (.long p1), .second, .val (.int p2), .val (.long p3), .second, .val (.int sl), .val (.long d1), .second, .val (.long d3), .second, .val (.long y1), .second, .val (.int y2), .unset, .unset, .unset, .unset, .unset, .unset, .unset, .unset, .unset, .unset, .unset, .unset, .unset] [(.int (sl &&& (4 : Int32)))])) (fun t_ k_ => XS.iand X0.here hx rfl (hb hby at_39) rfl k_) ?_
      have J51_3 : ∀ (y3 : Int64), y3 = (if (sl &&& (4 : Int32)) = (0 : Int32) then (p3 + d3) else p3) → Go p e below (PostW s n0 room_1.cells room_1.slots (Q0 Z n0 h0 p1 p2 p3 sl d1 d3 wc fc)) s₁ (mkF m 51 #[.val (.long p1), .second, .val (.int p2), .val (.long p3), .second, .val (.int sl), .val (.long d1), .second, .val (.long d3), .second, .val (.long y1), .second, .val (.int y2), .unset, .unset, .unset, .unset, .unset, .unset, .unset, .unset, .unset, .unset, .unset, .unset, .unset] [(.long y3)]) := by
        intro y3 h_y3
        refine Go.st (T' := s₁) (g' := (mkF m 53 #[.val (.long p1), .second, .val (.int p2), .val (.long p3), .second, .val (.int sl), .val (.long d1), .second, .val (.long d3), .second, .val (.long y1), .second, .val (.int y2), .val (.long y3), .second, .unset, .unset, .unset, .unset, .unset, .unset, .unset, .unset, .unset, .unset, .unset] [])) (fun t_ k_ => XS.lstore X0.here hx rfl (hb hby at_51) rfl (l' := #[.val (.long p1), .second, .val (.int p2), .val (.long p3), .second, .val (.int sl), .val (.long d1), .second, .val (.long d3), .second, .val (.long y1), .second, .val (.int y2), .val (.long y3), .second, .unset, .unset, .unset, .unset, .unset, .unset, .unset, .unset, .unset, .unset, .unset]) rfl k_) ?_
        refine goNew X0 hx hZ hown (hw _ (List.mem_of_getElem? (i := 0) rfl)) (hw _ (List.mem_of_getElem? (i := 1) rfl)) (hw _ (List.mem_of_getElem? (i := 2) rfl)) (hb hby at_53) (by decide) (by decide) fun T4 h4 oa gb4 X4 E4 A4 D4 => ?_
        have ge4 : n0 ≤ oa := gb4 ▸ sz0
        have ne4_wc : wc ≠ oa := gb4 ▸ Nat.ne_of_lt g1.lt
        have f4_0 : Sta Z h4 "java/lang/Long$LongCache" "cache" "[Ljava/lang/Long;" (.ref wc) := g0.ext E4
        have f4_1 : Ary Z h4 wc (.object "java/lang/Long") 256 fc := g1.ext E4
        have f4_2 : ∀ i, i < 256 → ∃ w, fc i = .ref w ∧ Exa Z h4 w "java/lang/Long" := fun i hi => (g2 i hi).imp fun _ q => ⟨q.1, q.2.ext E4⟩
        have sz4 : n0 ≤ h4.size := Nat.le_trans sz0 E4.1
        have F4_physicalOffset : Fld Z h4 oa "com/example/keelstore/keelstore/layout/ConsumeQueueEntry" "physicalOffset" "J" (.long (0 : Int64)) := D4 (Or.inr (hw _ (List.mem_of_getElem? (i := 15) rfl))) (ty := .long) (by decide)
        have F4_size : Fld Z h4 oa "com/example/keelstore/keelstore/layout/ConsumeQueueEntry" "size" "I" (.int (0 : Int32)) := D4 (Or.inr (hw _ (List.mem_of_getElem? (i := 17) rfl))) (ty := .int) (by decide)
        have F4_tagHash : Fld Z h4 oa "com/example/keelstore/keelstore/layout/ConsumeQueueEntry" "tagHash" "J" (.long (0 : Int64)) := D4 (Or.inr (hw _ (List.mem_of_getElem? (i := 19) rfl))) (ty := .long) (by decide)
        show Go p e below _ T4 (mkF m 56 #[.val (.long p1), .second, .val (.int p2), .val (.long p3), .second, .val (.int sl), .val (.long d1), .second, .val (.long d3), .second, .val (.long y1), .second, .val (.int y2), .val (.long y3), .second, .unset, .unset, .unset, .unset, .unset, .unset, .unset, .unset, .unset, .unset, .unset] [(.ref oa)])
        refine Go.st (T' := T4) (g' := (mkF m 57 #[.val (.long p1), .second, .val (.int p2), .val (.long p3), .second, .val (.int sl), .val (.long d1), .second, .val (.long d3), .second, .val (.long y1), .second, .val (.int y2), .val (.long y3), .second, .unset, .unset, .unset, .unset, .unset, .unset, .unset, .unset, .unset, .unset, .unset] [(.ref oa), (.ref oa)])) (fun t_ k_ => XS.dup X4.here hx rfl (hb hby at_56) rfl rfl k_) ?_
        refine Go.st (T' := T4) (g' := (mkF m 58 #[.val (.long p1), .second, .val (.int p2), .val (.long p3), .second, .val (.int sl), .val (.long d1), .second, .val (.long d3), .second, .val (.long y1), .second, .val (.int y2), .val (.long y3), .second, .unset, .unset, .unset, .unset, .unset, .unset, .unset, .unset, .unset, .unset, .unset] [(.long p1), (.ref oa), (.ref oa)])) (fun t_ k_ => XS.lloadN X4.here hx rfl (hb hby at_57) rfl k_) ?_
        refine Go.st (T' := T4) (g' := (mkF m 59 #[.val (.long p1), .second, .val (.int p2), .val (.long p3), .second, .val (.int sl), .val (.long d1), .second, .val (.long d3), .second, .val (.long y1), .second, .val (.int y2), .val (.long y3), .second, .unset, .unset, .unset, .unset, .unset, .unset, .unset, .unset, .unset, .unset, .unset] [(.int p2), (.long p1), (.ref oa), (.ref oa)])) (fun t_ k_ => XS.iloadN X4.here hx rfl (hb hby at_58) rfl k_) ?_
        refine Go.st (T' := T4) (g' := (mkF m 60 #[.val (.long p1), .second, .val (.int p2), .val (.long p3), .second, .val (.int sl), .val (.long d1), .second, .val (.long d3), .second, .val (.long y1), .second, .val (.int y2), .val (.long y3), .second, .unset, .unset, .unset, .unset, .unset, .unset, .unset, .unset, .unset, .unset, .unset] [(.long p3), (.int p2), (.long p1), (.ref oa), (.ref oa)])) (fun t_ k_ => XS.lloadN X4.here hx rfl (hb hby at_59) rfl k_) ?_
        refine goCtor X4 hx hZ (y := (⟨"com/example/keelstore/keelstore/layout/ConsumeQueueEntry", "<init>", "(JIJ)V"⟩ : MethodName)) rfl hown (hw _ (List.mem_of_getElem? (i := 3) rfl)) (hw _ (List.mem_of_getElem? (i := 4) rfl)) (hw _ (List.mem_of_getElem? (i := 2) rfl)) (hw _ (List.mem_of_getElem? (i := 5) rfl)) (by decide) (rm1 l Z a0 hw [] n0 h4 oa p1 p2 p3 (.long (0 : Int64)) (.int (0 : Int32)) (.long (0 : Int64)) sz4 A4 F4_physicalOffset F4_size F4_tagHash ge4) 1 (by decide) (by decide) (by rw [hml]; rfl) oa [(.long p1), (.int p2), (.long p3)] [(.ref oa)] (lenOf pd_1521129b rfl) rfl rfl rfl (hb hby at_60) (by decide) (by decide) fun v5 T5 h5 X5 hq5 => ?_
        obtain ⟨rfl, K5c, p5_0, p5_1, p5_2, p5_3⟩ := hq5
        have f5_0 : Sta Z h5 "java/lang/Long$LongCache" "cache" "[Ljava/lang/Long;" (.ref wc) := sta_keep f4_0 K5c (allS ⟨_, A4⟩ all0)
        have f5_1 : Ary Z h5 wc (.object "java/lang/Long") 256 fc := f4_1.keep K5c (ninS ne4_wc nin0)
        have f5_2 : ∀ i, i < 256 → ∃ w, fc i = .ref w ∧ Exa Z h5 w "java/lang/Long" := fun i hi => (f4_2 i hi).imp fun _ q => ⟨q.1, q.2.keep K5c⟩
        have f5_5 : Exa Z h5 oa "com/example/keelstore/keelstore/layout/ConsumeQueueEntry" := A4.keep K5c
        have sz5 : n0 ≤ h5.size := Nat.le_trans sz4 K5c.1
        show Go p e below _ T5 (mkF m 63 #[.val (.long p1), .second, .val (.int p2), .val (.long p3), .second, .val (.int sl), .val (.long d1), .second, .val (.long d3), .second, .val (.long y1), .second, .val (.int y2), .val (.long y3), .second, .unset, .unset, .unset, .unset, .unset, .unset, .unset, .unset, .unset, .unset, .unset] [(.ref oa)])
        refine Go.st (T' := T5) (g' := (mkF m 65 #[.val (.long p1), .second, .val (.int p2), .val (.long p3), .second, .val (.int sl), .val (.long d1), .second, .val (.long d3), .second, .val (.long y1), .second, .val (.int y2), .val (.long y3), .second, .val (.ref oa), .unset, .unset, .unset, .unset, .unset, .unset, .unset, .unset, .unset, .unset] [])) (fun t_ k_ => XS.astore X5.here hx rfl (hb hby at_63) rfl rfl (l' := #[.val (.long p1), .second, .val (.int p2), .val (.long p3), .second, .val (.int sl), .val (.long d1), .second, .val (.long d3), .second, .val (.long y1), .second, .val (.int y2), .val (.long y3), .second, .val (.ref oa), .unset, .unset, .unset, .unset, .unset, .unset, .unset, .unset, .unset, .unset]) rfl k_) ?_
        refine goNew X5 hx hZ hown (hw _ (List.mem_of_getElem? (i := 0) rfl)) (hw _ (List.mem_of_getElem? (i := 1) rfl)) (hw _ (List.mem_of_getElem? (i := 2) rfl)) (hb hby at_65) (by decide) (by decide) fun T6 h6 ob gb6 X6 E6 A6 D6 => ?_
        have ge6 : n0 ≤ ob := gb6 ▸ sz5
        have ne6_wc : wc ≠ ob := gb6 ▸ Nat.ne_of_lt f5_1.lt
        have ne6_oa : oa ≠ ob := gb6 ▸ Nat.ne_of_lt p5_0.lt
        have f6_0 : Sta Z h6 "java/lang/Long$LongCache" "cache" "[Ljava/lang/Long;" (.ref wc) := f5_0.ext E6
        have f6_1 : Ary Z h6 wc (.object "java/lang/Long") 256 fc := f5_1.ext E6
        have f6_2 : ∀ i, i < 256 → ∃ w, fc i = .ref w ∧ Exa Z h6 w "java/lang/Long" := fun i hi => (f5_2 i hi).imp fun _ q => ⟨q.1, q.2.ext E6⟩
        have f6_5 : Exa Z h6 oa "com/example/keelstore/keelstore/layout/ConsumeQueueEntry" := p5_0.ext E6
        have f6_6 : Fld Z h6 oa "com/example/keelstore/keelstore/layout/ConsumeQueueEntry" "physicalOffset" "J" (.long p1) := p5_1.ext E6
        have f6_7 : Fld Z h6 oa "com/example/keelstore/keelstore/layout/ConsumeQueueEntry" "size" "I" (.int p2) := p5_2.ext E6
        have f6_8 : Fld Z h6 oa "com/example/keelstore/keelstore/layout/ConsumeQueueEntry" "tagHash" "J" (.long p3) := p5_3.ext E6
        have sz6 : n0 ≤ h6.size := Nat.le_trans sz5 E6.1
        have F6_physicalOffset : Fld Z h6 ob "com/example/keelstore/keelstore/layout/ConsumeQueueEntry" "physicalOffset" "J" (.long (0 : Int64)) := D6 (Or.inr (hw _ (List.mem_of_getElem? (i := 15) rfl))) (ty := .long) (by decide)
        have F6_size : Fld Z h6 ob "com/example/keelstore/keelstore/layout/ConsumeQueueEntry" "size" "I" (.int (0 : Int32)) := D6 (Or.inr (hw _ (List.mem_of_getElem? (i := 17) rfl))) (ty := .int) (by decide)
        have F6_tagHash : Fld Z h6 ob "com/example/keelstore/keelstore/layout/ConsumeQueueEntry" "tagHash" "J" (.long (0 : Int64)) := D6 (Or.inr (hw _ (List.mem_of_getElem? (i := 19) rfl))) (ty := .long) (by decide)
        show Go p e below _ T6 (mkF m 68 #[.val (.long p1), .second, .val (.int p2), .val (.long p3), .second, .val (.int sl), .val (.long d1), .second, .val (.long d3), .second, .val (.long y1), .second, .val (.int y2), .val (.long y3), .second, .val (.ref oa), .unset, .unset, .unset, .unset, .unset, .unset, .unset, .unset, .unset, .unset] [(.ref ob)])
        refine Go.st (T' := T6) (g' := (mkF m 69 #[.val (.long p1), .second, .val (.int p2), .val (.long p3), .second, .val (.int sl), .val (.long d1), .second, .val (.long d3), .second, .val (.long y1), .second, .val (.int y2), .val (.long y3), .second, .val (.ref oa), .unset, .unset, .unset, .unset, .unset, .unset, .unset, .unset, .unset, .unset] [(.ref ob), (.ref ob)])) (fun t_ k_ => XS.dup X6.here hx rfl (hb hby at_68) rfl rfl k_) ?_
        refine Go.st (T' := T6) (g' := (mkF m 71 #[.val (.long p1), .second, .val (.int p2), .val (.long p3), .second, .val (.int sl), .val (.long d1), .second, .val (.long d3), .second, .val (.long y1), .second, .val (.int y2), .val (.long y3), .second, .val (.ref oa), .unset, .unset, .unset, .unset, .unset, .unset, .unset, .unset, .unset, .unset] [(.long y1), (.ref ob), (.ref ob)])) (fun t_ k_ => XS.lload X6.here hx rfl (hb hby at_69) rfl k_) ?_
        refine Go.st (T' := T6) (g' := (mkF m 73 #[.val (.long p1), .second, .val (.int p2), .val (.long p3), .second, .val (.int sl), .val (.long d1), .second, .val (.long d3), .second, .val (.long y1), .second, .val (.int y2), .val (.long y3), .second, .val (.ref oa), .unset, .unset, .unset, .unset, .unset, .unset, .unset, .unset, .unset, .unset] [(.int y2), (.long y1), (.ref ob), (.ref ob)])) (fun t_ k_ => XS.iload X6.here hx rfl (hb hby at_71) rfl k_) ?_
        refine Go.st (T' := T6) (g' := (mkF m 75 #[.val (.long p1), .second, .val (.int p2), .val (.long p3), .second, .val (.int sl), .val (.long d1), .second, .val (.long d3), .second, .val (.long y1), .second, .val (.int y2), .val (.long y3), .second, .val (.ref oa), .unset, .unset, .unset, .unset, .unset, .unset, .unset, .unset, .unset, .unset] [(.long y3), (.int y2), (.long y1), (.ref ob), (.ref ob)])) (fun t_ k_ => XS.lload X6.here hx rfl (hb hby at_73) rfl k_) ?_
        refine goCtor X6 hx hZ (y := (⟨"com/example/keelstore/keelstore/layout/ConsumeQueueEntry", "<init>", "(JIJ)V"⟩ : MethodName)) rfl hown (hw _ (List.mem_of_getElem? (i := 3) rfl)) (hw _ (List.mem_of_getElem? (i := 4) rfl)) (hw _ (List.mem_of_getElem? (i := 2) rfl)) (hw _ (List.mem_of_getElem? (i := 5) rfl)) (by decide) (rm1 l Z a0 hw [] n0 h6 ob y1 y2 y3 (.long (0 : Int64)) (.int (0 : Int32)) (.long (0 : Int64)) sz6 A6 F6_physicalOffset F6_size F6_tagHash ge6) 1 (by decide) (by decide) (by rw [hml]; rfl) ob [(.long y1), (.int y2), (.long y3)] [(.ref ob)] (lenOf pd_1521129b rfl) rfl rfl rfl (hb hby at_75) (by decide) (by decide) fun v7 T7 h7 X7 hq7 => ?_
        obtain ⟨rfl, K7c, p7_0, p7_1, p7_2, p7_3⟩ := hq7
        have f7_0 : Sta Z h7 "java/lang/Long$LongCache" "cache" "[Ljava/lang/Long;" (.ref wc) := sta_keep f6_0 K7c (allS ⟨_, A6⟩ all0)
        have f7_1 : Ary Z h7 wc (.object "java/lang/Long") 256 fc := f6_1.keep K7c (ninS ne6_wc nin0)
        have f7_2 : ∀ i, i < 256 → ∃ w, fc i = .ref w ∧ Exa Z h7 w "java/lang/Long" := fun i hi => (f6_2 i hi).imp fun _ q => ⟨q.1, q.2.keep K7c⟩
        have f7_5 : Exa Z h7 oa "com/example/keelstore/keelstore/layout/ConsumeQueueEntry" := f6_5.keep K7c
        have f7_6 : Fld Z h7 oa "com/example/keelstore/keelstore/layout/ConsumeQueueEntry" "physicalOffset" "J" (.long p1) := f6_6.keep K7c (ninS ne6_oa nin0)
        have f7_7 : Fld Z h7 oa "com/example/keelstore/keelstore/layout/ConsumeQueueEntry" "size" "I" (.int p2) := f6_7.keep K7c (ninS ne6_oa nin0)
        have f7_8 : Fld Z h7 oa "com/example/keelstore/keelstore/layout/ConsumeQueueEntry" "tagHash" "J" (.long p3) := f6_8.keep K7c (ninS ne6_oa nin0)
        have f7_12 : Exa Z h7 ob "com/example/keelstore/keelstore/layout/ConsumeQueueEntry" := A6.keep K7c
        have sz7 : n0 ≤ h7.size := Nat.le_trans sz6 K7c.1
        show Go p e below _ T7 (mkF m 78 #[.val (.long p1), .second, .val (.int p2), .val (.long p3), .second, .val (.int sl), .val (.long d1), .second, .val (.long d3), .second, .val (.long y1), .second, .val (.int y2), .val (.long y3), .second, .val (.ref oa), .unset, .unset, .unset, .unset, .unset, .unset, .unset, .unset, .unset, .unset] [(.ref ob)])
        refine Go.st (T' := T7) (g' := (mkF m 80 #[.val (.long p1), .second, .val (.int p2), .val (.long p3), .second, .val (.int sl), .val (.long d1), .second, .val (.long d3), .second, .val (.long y1), .second, .val (.int y2), .val (.long y3), .second, .val (.ref oa), .val (.ref ob), .unset, .unset, .unset, .unset, .unset, .unset, .unset, .unset, .unset] [])) (fun t_ k_ => XS.astore X7.here hx rfl (hb hby at_78) rfl rfl (l' := #[.val (.long p1), .second, .val (.int p2), .val (.long p3), .second, .val (.int sl), .val (.long d1), .second, .val (.long d3), .second, .val (.long y1), .second, .val (.int y2), .val (.long y3), .second, .val (.ref oa), .val (.ref ob), .unset, .unset, .unset, .unset, .unset, .unset, .unset, .unset, .unset]) rfl k_) ?_
        refine Go.st (T' := T7) (g' := (mkF m 81 #[.val (.long p1), .second, .val (.int p2), .val (.long p3), .second, .val (.int sl), .val (.long d1), .second, .val (.long d3), .second, .val (.long y1), .second, .val (.int y2), .val (.long y3), .second, .val (.ref oa), .val (.ref ob), .unset, .unset, .unset, .unset, .unset, .unset, .unset, .unset, .unset] [(.long p1)])) (fun t_ k_ => XS.lloadN X7.here hx rfl (hb hby at_80) rfl k_) ?_
        refine Go.st (T' := T7) (g' := (mkF m 83 #[.val (.long p1), .second, .val (.int p2), .val (.long p3), .second, .val (.int sl), .val (.long d1), .second, .val (.long d3), .second, .val (.long y1), .second, .val (.int y2), .val (.long y3), .second, .val (.ref oa), .val (.ref ob), .unset, .unset, .unset, .unset, .unset, .unset, .unset, .unset, .unset] [(.long y1), (.long p1)])) (fun t_ k_ => XS.lload X7.here hx rfl (hb hby at_81) rfl k_) ?_
        refine Go.st (T' := T7) (g' := (mkF m 84 #[.val (.long p1), .second, .val (.int p2), .val (.long p3), .second, .val (.int sl), .val (.long d1), .second, .val (.long d3), .second, .val (.long y1), .second, .val (.int y2), .val (.long y3), .second, .val (.ref oa), .val (.ref ob), .unset, .unset, .unset, .unset, .unset, .unset, .unset, .unset, .unset] [(.int (lcmpW p1 y1))])) (fun t_ k_ => XS.lcmp X7.here hx rfl (hb hby at_83) rfl k_) ?_
        have J105_8 : ∀ (ex : Int32), ex = (if p1 = y1 then (if p2 = y2 then (if p3 = y3 then (1 : Int32) else (0 : Int32)) else (0 : Int32)) else (0 : Int32)) → Go p e below (PostW s n0 room_1.cells room_1.slots (Q0 Z n0 h0 p1 p2 p3 sl d1 d3 wc fc)) T7 (mkF m 105 #[.val (.long p1), .second, .val (.int p2), .val (.long p3), .second, .val (.int sl), .val (.long d1), .second, .val (.long d3), .second, .val (.long y1), .second, .val (.int y2), .val (.long y3), .second, .val (.ref oa), .val (.ref ob), .unset, .unset, .unset, .unset, .unset, .unset, .unset, .unset, .unset] [(.int ex)]) := by
          intro ex h_ex
          refine Go.st (T' := T7) (g' := (mkF m 107 #[.val (.long p1), .second, .val (.int p2), .val (.long p3), .second, .val (.int sl), .val (.long d1), .second, .val (.long d3), .second, .val (.long y1), .second, .val (.int y2), .val (.long y3), .second, .val (.ref oa), .val (.ref ob), .val (.int ex), .unset, .unset, .unset, .unset, .unset, .unset, .unset, .unset] [])) (fun t_ k_ => XS.istore X7.here hx rfl (hb hby at_105) rfl (l' := #[.val (.long p1), .second, .val (.int p2), .val (.long p3), .second, .val (.int sl), .val (.long d1), .second, .val (.long d3), .second, .val (.long y1), .second, .val (.int y2), .val (.long y3), .second, .val (.ref oa), .val (.ref ob), .val (.int ex), .unset, .unset, .unset, .unset, .unset, .unset, .unset, .unset]) rfl k_) ?_
          refine Go.st (T' := T7) (g' := (mkF m 108 #[.val (.long p1), .second, .val (.int p2), .val (.long p3), .second, .val (.int sl), .val (.long d1), .second, .val (.long d3), .second, .val (.long y1), .second, .val (.int y2), .val (.long y3), .second, .val (.ref oa), .val (.ref ob), .val (.int ex), .unset, .unset, .unset, .unset, .unset, .unset, .unset, .unset] [.null])) (fun t_ k_ => XS.aconstNull X7.here hx rfl (hb hby at_107) k_) ?_
          refine Go.st (T' := T7) (g' := (mkF m 110 #[.val (.long p1), .second, .val (.int p2), .val (.long p3), .second, .val (.int sl), .val (.long d1), .second, .val (.long d3), .second, .val (.long y1), .second, .val (.int y2), .val (.long y3), .second, .val (.ref oa), .val (.ref ob), .val (.int ex), .val .null, .unset, .unset, .unset, .unset, .unset, .unset, .unset] [])) (fun t_ k_ => XS.astore X7.here hx rfl (hb hby at_108) rfl rfl (l' := #[.val (.long p1), .second, .val (.int p2), .val (.long p3), .second, .val (.int sl), .val (.long d1), .second, .val (.long d3), .second, .val (.long y1), .second, .val (.int y2), .val (.long y3), .second, .val (.ref oa), .val (.ref ob), .val (.int ex), .val .null, .unset, .unset, .unset, .unset, .unset, .unset, .unset]) rfl k_) ?_
          refine Go.st (T' := T7) (g' := (mkF m 111 #[.val (.long p1), .second, .val (.int p2), .val (.long p3), .second, .val (.int sl), .val (.long d1), .second, .val (.long d3), .second, .val (.long y1), .second, .val (.int y2), .val (.long y3), .second, .val (.ref oa), .val (.ref ob), .val (.int ex), .val .null, .unset, .unset, .unset, .unset, .unset, .unset, .unset] [(.long p1)])) (fun t_ k_ => XS.lloadN X7.here hx rfl (hb hby at_110) rfl k_) ?_
          refine goStatic X7 hx hZ (y := (⟨"java/lang/Long", "valueOf", "(J)Ljava/lang/Long;"⟩ : MethodName)) hown (hw _ (List.mem_of_getElem? (i := 20) rfl)) (hw _ (List.mem_of_getElem? (i := 21) rfl)) (hw _ (List.mem_of_getElem? (i := 22) rfl)) (hw _ (List.mem_of_getElem? (i := 23) rfl)) (by decide) (rm4 l Z a0 hw [] n0 h7 p1 wc fc sz7 f7_0 f7_1 f7_2) 0 (by decide) (by decide) (by rw [hml]; rfl) [(.long p1)] [] (lenOf pd_c9fc8cea rfl) rfl rfl rfl (hb hby at_111) (by decide) (by decide) fun v9 T9 h9 X9 hq9 => ?_
          obtain ⟨ol, rfl, K9c, p9_0⟩ := hq9
          have f9_0 : Sta Z h9 "java/lang/Long$LongCache" "cache" "[Ljava/lang/Long;" (.ref wc) := sta_keep f7_0 K9c all0
          have f9_1 : Ary Z h9 wc (.object "java/lang/Long") 256 fc := f7_1.keep K9c nin0
          have f9_2 : ∀ i, i < 256 → ∃ w, fc i = .ref w ∧ Exa Z h9 w "java/lang/Long" := fun i hi => (f7_2 i hi).imp fun _ q => ⟨q.1, q.2.keep K9c⟩
          have f9_5 : Exa Z h9 oa "com/example/keelstore/keelstore/layout/ConsumeQueueEntry" := f7_5.keep K9c
          have f9_6 : Fld Z h9 oa "com/example/keelstore/keelstore/layout/ConsumeQueueEntry" "physicalOffset" "J" (.long p1) := f7_6.keep K9c nin0
          have f9_7 : Fld Z h9 oa "com/example/keelstore/keelstore/layout/ConsumeQueueEntry" "size" "I" (.int p2) := f7_7.keep K9c nin0
          have f9_8 : Fld Z h9 oa "com/example/keelstore/keelstore/layout/ConsumeQueueEntry" "tagHash" "J" (.long p3) := f7_8.keep K9c nin0
          have f9_12 : Exa Z h9 ob "com/example/keelstore/keelstore/layout/ConsumeQueueEntry" := p7_0.keep K9c
          have f9_13 : Fld Z h9 ob "com/example/keelstore/keelstore/layout/ConsumeQueueEntry" "physicalOffset" "J" (.long y1) := p7_1.keep K9c nin0
          have f9_14 : Fld Z h9 ob "com/example/keelstore/keelstore/layout/ConsumeQueueEntry" "size" "I" (.int y2) := p7_2.keep K9c nin0
          have f9_15 : Fld Z h9 ob "com/example/keelstore/keelstore/layout/ConsumeQueueEntry" "tagHash" "J" (.long y3) := p7_3.keep K9c nin0
          have sz9 : n0 ≤ h9.size := Nat.le_trans sz7 K9c.1
          show Go p e below _ T9 (mkF m 114 #[.val (.long p1), .second, .val (.int p2), .val (.long p3), .second, .val (.int sl), .val (.long d1), .second, .val (.long d3), .second, .val (.long y1), .second, .val (.int y2), .val (.long y3), .second, .val (.ref oa), .val (.ref ob), .val (.int ex), .val .null, .unset, .unset, .unset, .unset, .unset, .unset, .unset] [(.ref ol)])
          refine Go.st (T' := T9) (g' := (mkF m 116 #[.val (.long p1), .second, .val (.int p2), .val (.long p3), .second, .val (.int sl), .val (.long d1), .second, .val (.long d3), .second, .val (.long y1), .second, .val (.int y2), .val (.long y3), .second, .val (.ref oa), .val (.ref ob), .val (.int ex), .val .null, .val (.ref ol), .unset, .unset, .unset, .unset, .unset, .unset] [])) (fun t_ k_ => XS.astore X9.here hx rfl (hb hby at_114) rfl rfl (l' := #[.val (.long p1), .second, .val (.int p2), .val (.long p3), .second, .val (.int sl), .val (.long d1), .second, .val (.long d3), .second, .val (.long y1), .second, .val (.int y2), .val (.long y3), .second, .val (.ref oa), .val (.ref ob), .val (.int ex), .val .null, .val (.ref ol), .unset, .unset, .unset, .unset, .unset, .unset]) rfl k_) ?_
          refine Go.st (T' := T9) (g' := (mkF m 118 #[.val (.long p1), .second, .val (.int p2), .val (.long p3), .second, .val (.int sl), .val (.long d1), .second, .val (.long d3), .second, .val (.long y1), .second, .val (.int y2), .val (.long y3), .second, .val (.ref oa), .val (.ref ob), .val (.int ex), .val .null, .val (.ref ol), .unset, .unset, .unset, .unset, .unset, .unset] [(.ref oa)])) (fun t_ k_ => XS.aload X9.here hx rfl (hb hby at_116) rfl rfl k_) ?_
          refine Go.st (T' := T9) (g' := (mkF m 120 #[.val (.long p1), .second, .val (.int p2), .val (.long p3), .second, .val (.int sl), .val (.long d1), .second, .val (.long d3), .second, .val (.long y1), .second, .val (.int y2), .val (.long y3), .second, .val (.ref oa), .val (.ref ob), .val (.int ex), .val .null, .val (.ref ol), .unset, .unset, .unset, .unset, .unset, .unset] [(.ref ob), (.ref oa)])) (fun t_ k_ => XS.aload X9.here hx rfl (hb hby at_118) rfl rfl k_) ?_
          refine goVirtS X9 hx hZ (y := (⟨"com/example/keelstore/keelstore/layout/ConsumeQueueEntry", "equals", "(Ljava/lang/Object;)Z"⟩ : MethodName)) hown (hw _ (List.mem_of_getElem? (i := 28) rfl)) (hw _ (List.mem_of_getElem? (i := 29) rfl)) (hw _ (List.mem_of_getElem? (i := 31) rfl)) (hw _ (List.mem_of_getElem? (i := 30) rfl)) (hw _ (List.mem_of_getElem? (i := 2) rfl)) (hw _ (List.mem_of_getElem? (i := 32) rfl)) (by decide) f9_5 (rm5 l Z a0 hw [] n0 h9 oa ob p1 p2 p3 y1 y2 y3 sz9 f9_12 f9_6 f9_7 f9_8 f9_13 f9_14 f9_15) 0 (by decide) (by decide) (by rw [hml]; rfl) [(.ref ob)] [] (lenOf pd_c9909b14 rfl) rfl rfl rfl (hb hby at_120) (by decide) (by decide) fun v10 T10 h10 X10 hq10 => ?_
          obtain ⟨r1, rfl, eh10, t1⟩ := hq10
          rw [eh10] at X10
          show Go p e below _ T10 (mkF m 123 #[.val (.long p1), .second, .val (.int p2), .val (.long p3), .second, .val (.int sl), .val (.long d1), .second, .val (.long d3), .second, .val (.long y1), .second, .val (.int y2), .val (.long y3), .second, .val (.ref oa), .val (.ref ob), .val (.int ex), .val .null, .val (.ref ol), .unset, .unset, .unset, .unset, .unset, .unset] [(.int r1)])
          refine Go.st (T' := T10) (g' := (mkF m 125 #[.val (.long p1), .second, .val (.int p2), .val (.long p3), .second, .val (.int sl), .val (.long d1), .second, .val (.long d3), .second, .val (.long y1), .second, .val (.int y2), .val (.long y3), .second, .val (.ref oa), .val (.ref ob), .val (.int ex), .val .null, .val (.ref ol), .val (.int r1), .unset, .unset, .unset, .unset, .unset] [])) (fun t_ k_ => XS.istore X10.here hx rfl (hb hby at_123) rfl (l' := #[.val (.long p1), .second, .val (.int p2), .val (.long p3), .second, .val (.int sl), .val (.long d1), .second, .val (.long d3), .second, .val (.long y1), .second, .val (.int y2), .val (.long y3), .second, .val (.ref oa), .val (.ref ob), .val (.int ex), .val .null, .val (.ref ol), .val (.int r1), .unset, .unset, .unset, .unset, .unset]) rfl k_) ?_
          refine Go.st (T' := T10) (g' := (mkF m 127 #[.val (.long p1), .second, .val (.int p2), .val (.long p3), .second, .val (.int sl), .val (.long d1), .second, .val (.long d3), .second, .val (.long y1), .second, .val (.int y2), .val (.long y3), .second, .val (.ref oa), .val (.ref ob), .val (.int ex), .val .null, .val (.ref ol), .val (.int r1), .unset, .unset, .unset, .unset, .unset] [(.ref ob)])) (fun t_ k_ => XS.aload X10.here hx rfl (hb hby at_125) rfl rfl k_) ?_
          refine Go.st (T' := T10) (g' := (mkF m 129 #[.val (.long p1), .second, .val (.int p2), .val (.long p3), .second, .val (.int sl), .val (.long d1), .second, .val (.long d3), .second, .val (.long y1), .second, .val (.int y2), .val (.long y3), .second, .val (.ref oa), .val (.ref ob), .val (.int ex), .val .null, .val (.ref ol), .val (.int r1), .unset, .unset, .unset, .unset, .unset] [(.ref oa), (.ref ob)])) (fun t_ k_ => XS.aload X10.here hx rfl (hb hby at_127) rfl rfl k_) ?_
          refine goVirtS X10 hx hZ (y := (⟨"com/example/keelstore/keelstore/layout/ConsumeQueueEntry", "equals", "(Ljava/lang/Object;)Z"⟩ : MethodName)) hown (hw _ (List.mem_of_getElem? (i := 28) rfl)) (hw _ (List.mem_of_getElem? (i := 29) rfl)) (hw _ (List.mem_of_getElem? (i := 31) rfl)) (hw _ (List.mem_of_getElem? (i := 30) rfl)) (hw _ (List.mem_of_getElem? (i := 2) rfl)) (hw _ (List.mem_of_getElem? (i := 32) rfl)) (by decide) f9_12 (rm5 l Z a0 hw [] n0 h9 ob oa y1 y2 y3 p1 p2 p3 sz9 f9_5 f9_13 f9_14 f9_15 f9_6 f9_7 f9_8) 0 (by decide) (by decide) (by rw [hml]; rfl) [(.ref oa)] [] (lenOf pd_c9909b14 rfl) rfl rfl rfl (hb hby at_129) (by decide) (by decide) fun v11 T11 h11 X11 hq11 => ?_
          obtain ⟨r2, rfl, eh11, t2⟩ := hq11
          rw [eh11] at X11
          show Go p e below _ T11 (mkF m 132 #[.val (.long p1), .second, .val (.int p2), .val (.long p3), .second, .val (.int sl), .val (.long d1), .second, .val (.long d3), .second, .val (.long y1), .second, .val (.int y2), .val (.long y3), .second, .val (.ref oa), .val (.ref ob), .val (.int ex), .val .null, .val (.ref ol), .val (.int r1), .unset, .unset, .unset, .unset, .unset] [(.int r2)])
          refine Go.st (T' := T11) (g' := (mkF m 134 #[.val (.long p1), .second, .val (.int p2), .val (.long p3), .second, .val (.int sl), .val (.long d1), .second, .val (.long d3), .second, .val (.long y1), .second, .val (.int y2), .val (.long y3), .second, .val (.ref oa), .val (.ref ob), .val (.int ex), .val .null, .val (.ref ol), .val (.int r1), .val (.int r2), .unset, .unset, .unset, .unset] [])) (fun t_ k_ => XS.istore X11.here hx rfl (hb hby at_132) rfl (l' := #[.val (.long p1), .second, .val (.int p2), .val (.long p3), .second, .val (.int sl), .val (.long d1), .second, .val (.long d3), .second, .val (.long y1), .second, .val (.int y2), .val (.long y3), .second, .val (.ref oa), .val (.ref ob), .val (.int ex), .val .null, .val (.ref ol), .val (.int r1), .val (.int r2), .unset, .unset, .unset, .unset]) rfl k_) ?_
          refine Go.st (T' := T11) (g' := (mkF m 136 #[.val (.long p1), .second, .val (.int p2), .val (.long p3), .second, .val (.int sl), .val (.long d1), .second, .val (.long d3), .second, .val (.long y1), .second, .val (.int y2), .val (.long y3), .second, .val (.ref oa), .val (.ref ob), .val (.int ex), .val .null, .val (.ref ol), .val (.int r1), .val (.int r2), .unset, .unset, .unset, .unset] [(.ref oa)])) (fun t_ k_ => XS.aload X11.here hx rfl (hb hby at_134) rfl rfl k_) ?_
          refine Go.st (T' := T11) (g' := (mkF m 138 #[.val (.long p1), .second, .val (.int p2), .val (.long p3), .second, .val (.int sl), .val (.long d1), .second, .val (.long d3), .second, .val (.long y1), .second, .val (.int y2), .val (.long y3), .second, .val (.ref oa), .val (.ref ob), .val (.int ex), .val .null, .val (.ref ol), .val (.int r1), .val (.int r2), .unset, .unset, .unset, .unset] [(.ref oa), (.ref oa)])) (fun t_ k_ => XS.aload X11.here hx rfl (hb hby at_136) rfl rfl k_) ?_
          refine goVirtS X11 hx hZ (y := (⟨"com/example/keelstore/keelstore/layout/ConsumeQueueEntry", "equals", "(Ljava/lang/Object;)Z"⟩ : MethodName)) hown (hw _ (List.mem_of_getElem? (i := 28) rfl)) (hw _ (List.mem_of_getElem? (i := 29) rfl)) (hw _ (List.mem_of_getElem? (i := 31) rfl)) (hw _ (List.mem_of_getElem? (i := 30) rfl)) (hw _ (List.mem_of_getElem? (i := 2) rfl)) (hw _ (List.mem_of_getElem? (i := 32) rfl)) (by decide) f9_5 (rm5 l Z a0 hw [] n0 h9 oa oa p1 p2 p3 p1 p2 p3 sz9 f9_5 f9_6 f9_7 f9_8 f9_6 f9_7 f9_8) 0 (by decide) (by decide) (by rw [hml]; rfl) [(.ref oa)] [] (lenOf pd_c9909b14 rfl) rfl rfl rfl (hb hby at_138) (by decide) (by decide) fun v12 T12 h12 X12 hq12 => ?_
          obtain ⟨r3, rfl, eh12, t3⟩ := hq12
          rw [eh12] at X12
          show Go p e below _ T12 (mkF m 141 #[.val (.long p1), .second, .val (.int p2), .val (.long p3), .second, .val (.int sl), .val (.long d1), .second, .val (.long d3), .second, .val (.long y1), .second, .val (.int y2), .val (.long y3), .second, .val (.ref oa), .val (.ref ob), .val (.int ex), .val .null, .val (.ref ol), .val (.int r1), .val (.int r2), .unset, .unset, .unset, .unset] [(.int r3)])
          refine Go.st (T' := T12) (g' := (mkF m 143 #[.val (.long p1), .second, .val (.int p2), .val (.long p3), .second, .val (.int sl), .val (.long d1), .second, .val (.long d3), .second, .val (.long y1), .second, .val (.int y2), .val (.long y3), .second, .val (.ref oa), .val (.ref ob), .val (.int ex), .val .null, .val (.ref ol), .val (.int r1), .val (.int r2), .val (.int r3), .unset, .unset, .unset] [])) (fun t_ k_ => XS.istore X12.here hx rfl (hb hby at_141) rfl (l' := #[.val (.long p1), .second, .val (.int p2), .val (.long p3), .second, .val (.int sl), .val (.long d1), .second, .val (.long d3), .second, .val (.long y1), .second, .val (.int y2), .val (.long y3), .second, .val (.ref oa), .val (.ref ob), .val (.int ex), .val .null, .val (.ref ol), .val (.int r1), .val (.int r2), .val (.int r3), .unset, .unset, .unset]) rfl k_) ?_
          refine Go.st (T' := T12) (g' := (mkF m 145 #[.val (.long p1), .second, .val (.int p2), .val (.long p3), .second, .val (.int sl), .val (.long d1), .second, .val (.long d3), .second, .val (.long y1), .second, .val (.int y2), .val (.long y3), .second, .val (.ref oa), .val (.ref ob), .val (.int ex), .val .null, .val (.ref ol), .val (.int r1), .val (.int r2), .val (.int r3), .unset, .unset, .unset] [(.ref oa)])) (fun t_ k_ => XS.aload X12.here hx rfl (hb hby at_143) rfl rfl k_) ?_
          refine Go.st (T' := T12) (g' := (mkF m 147 #[.val (.long p1), .second, .val (.int p2), .val (.long p3), .second, .val (.int sl), .val (.long d1), .second, .val (.long d3), .second, .val (.long y1), .second, .val (.int y2), .val (.long y3), .second, .val (.ref oa), .val (.ref ob), .val (.int ex), .val .null, .val (.ref ol), .val (.int r1), .val (.int r2), .val (.int r3), .unset, .unset, .unset] [.null, (.ref oa)])) (fun t_ k_ => XS.aload X12.here hx rfl (hb hby at_145) rfl rfl k_) ?_
          refine goVirtS X12 hx hZ (y := (⟨"com/example/keelstore/keelstore/layout/ConsumeQueueEntry", "equals", "(Ljava/lang/Object;)Z"⟩ : MethodName)) hown (hw _ (List.mem_of_getElem? (i := 28) rfl)) (hw _ (List.mem_of_getElem? (i := 29) rfl)) (hw _ (List.mem_of_getElem? (i := 31) rfl)) (hw _ (List.mem_of_getElem? (i := 30) rfl)) (hw _ (List.mem_of_getElem? (i := 2) rfl)) (hw _ (List.mem_of_getElem? (i := 32) rfl)) (by decide) f9_5 (rmEqN l Z a0 hw [] n0 h9 oa sz9) 0 (by decide) (by decide) (by rw [hml]; rfl) [.null] [] (lenOf pd_c9909b14 rfl) rfl rfl rfl (hb hby at_147) (by decide) (by decide) fun v13 T13 h13 X13 hq13 => ?_
          obtain ⟨rfl, eh13⟩ := hq13
          rw [eh13] at X13
          show Go p e below _ T13 (mkF m 150 #[.val (.long p1), .second, .val (.int p2), .val (.long p3), .second, .val (.int sl), .val (.long d1), .second, .val (.long d3), .second, .val (.long y1), .second, .val (.int y2), .val (.long y3), .second, .val (.ref oa), .val (.ref ob), .val (.int ex), .val .null, .val (.ref ol), .val (.int r1), .val (.int r2), .val (.int r3), .unset, .unset, .unset] [(.int (0 : Int32))])
          refine Go.st (T' := T13) (g' := (mkF m 152 #[.val (.long p1), .second, .val (.int p2), .val (.long p3), .second, .val (.int sl), .val (.long d1), .second, .val (.long d3), .second, .val (.long y1), .second, .val (.int y2), .val (.long y3), .second, .val (.ref oa), .val (.ref ob), .val (.int ex), .val .null, .val (.ref ol), .val (.int r1), .val (.int r2), .val (.int r3), .val (.int (0 : Int32)), .unset, .unset] [])) (fun t_ k_ => XS.istore X13.here hx rfl (hb hby at_150) rfl (l' := #[.val (.long p1), .second, .val (.int p2), .val (.long p3), .second, .val (.int sl), .val (.long d1), .second, .val (.long d3), .second, .val (.long y1), .second, .val (.int y2), .val (.long y3), .second, .val (.ref oa), .val (.ref ob), .val (.int ex), .val .null, .val (.ref ol), .val (.int r1), .val (.int r2), .val (.int r3), .val (.int (0 : Int32)), .unset, .unset]) rfl k_) ?_
          refine Go.st (T' := T13) (g' := (mkF m 154 #[.val (.long p1), .second, .val (.int p2), .val (.long p3), .second, .val (.int sl), .val (.long d1), .second, .val (.long d3), .second, .val (.long y1), .second, .val (.int y2), .val (.long y3), .second, .val (.ref oa), .val (.ref ob), .val (.int ex), .val .null, .val (.ref ol), .val (.int r1), .val (.int r2), .val (.int r3), .val (.int (0 : Int32)), .unset, .unset] [(.ref oa)])) (fun t_ k_ => XS.aload X13.here hx rfl (hb hby at_152) rfl rfl k_) ?_
          refine Go.st (T' := T13) (g' := (mkF m 156 #[.val (.long p1), .second, .val (.int p2), .val (.long p3), .second, .val (.int sl), .val (.long d1), .second, .val (.long d3), .second, .val (.long y1), .second, .val (.int y2), .val (.long y3), .second, .val (.ref oa), .val (.ref ob), .val (.int ex), .val .null, .val (.ref ol), .val (.int r1), .val (.int r2), .val (.int r3), .val (.int (0 : Int32)), .unset, .unset] [(.ref ol), (.ref oa)])) (fun t_ k_ => XS.aload X13.here hx rfl (hb hby at_154) rfl rfl k_) ?_
          refine goVirtS X13 hx hZ (y := (⟨"com/example/keelstore/keelstore/layout/ConsumeQueueEntry", "equals", "(Ljava/lang/Object;)Z"⟩ : MethodName)) hown (hw _ (List.mem_of_getElem? (i := 28) rfl)) (hw _ (List.mem_of_getElem? (i := 29) rfl)) (hw _ (List.mem_of_getElem? (i := 31) rfl)) (hw _ (List.mem_of_getElem? (i := 30) rfl)) (hw _ (List.mem_of_getElem? (i := 2) rfl)) (hw _ (List.mem_of_getElem? (i := 32) rfl)) (by decide) f9_5 (rmEqL l Z a0 hw [] n0 h9 oa ol sz9 p9_0) 0 (by decide) (by decide) (by rw [hml]; rfl) [(.ref ol)] [] (lenOf pd_c9909b14 rfl) rfl rfl rfl (hb hby at_156) (by decide) (by decide) fun v14 T14 h14 X14 hq14 => ?_
          obtain ⟨rfl, eh14⟩ := hq14
          rw [eh14] at X14
          show Go p e below _ T14 (mkF m 159 #[.val (.long p1), .second, .val (.int p2), .val (.long p3), .second, .val (.int sl), .val (.long d1), .second, .val (.long d3), .second, .val (.long y1), .second, .val (.int y2), .val (.long y3), .second, .val (.ref oa), .val (.ref ob), .val (.int ex), .val .null, .val (.ref ol), .val (.int r1), .val (.int r2), .val (.int r3), .val (.int (0 : Int32)), .unset, .unset] [(.int (0 : Int32))])
          refine Go.st (T' := T14) (g' := (mkF m 161 #[.val (.long p1), .second, .val (.int p2), .val (.long p3), .second, .val (.int sl), .val (.long d1), .second, .val (.long d3), .second, .val (.long y1), .second, .val (.int y2), .val (.long y3), .second, .val (.ref oa), .val (.ref ob), .val (.int ex), .val .null, .val (.ref ol), .val (.int r1), .val (.int r2), .val (.int r3), .val (.int (0 : Int32)), .val (.int (0 : Int32)), .unset] [])) (fun t_ k_ => XS.istore X14.here hx rfl (hb hby at_159) rfl (l' := #[.val (.long p1), .second, .val (.int p2), .val (.long p3), .second, .val (.int sl), .val (.long d1), .second, .val (.long d3), .second, .val (.long y1), .second, .val (.int y2), .val (.long y3), .second, .val (.ref oa), .val (.ref ob), .val (.int ex), .val .null, .val (.ref ol), .val (.int r1), .val (.int r2), .val (.int r3), .val (.int (0 : Int32)), .val (.int (0 : Int32)), .unset]) rfl k_) ?_
          refine Go.st (T' := T14) (g' := (mkF m 163 #[.val (.long p1), .second, .val (.int p2), .val (.long p3), .second, .val (.int sl), .val (.long d1), .second, .val (.long d3), .second, .val (.long y1), .second, .val (.int y2), .val (.long y3), .second, .val (.ref oa), .val (.ref ob), .val (.int ex), .val .null, .val (.ref ol), .val (.int r1), .val (.int r2), .val (.int r3), .val (.int (0 : Int32)), .val (.int (0 : Int32)), .unset] [(.int ex)])) (fun t_ k_ => XS.iload X14.here hx rfl (hb hby at_161) rfl k_) ?_
          have J179 : ∀ (T_J179 : State) (h_J179 : Heap), Stn p l e room_1 s m #[(.long p1), (.int p2), (.long p3), (.int sl), (.long d1), (.long d3)] below meth c n0 T_J179 h_J179 4 8 → n0 ≤ h_J179.size → Go p e below (PostW s n0 room_1.cells room_1.slots (Q0 Z n0 h0 p1 p2 p3 sl d1 d3 wc fc)) T_J179 (mkF m 179 #[.val (.long p1), .second, .val (.int p2), .val (.long p3), .second, .val (.int sl), .val (.long d1), .second, .val (.long d3), .second, .val (.long y1), .second, .val (.int y2), .val (.long y3), .second, .val (.ref oa), .val (.ref ob), .val (.int ex), .val .null, .val (.ref ol), .val (.int r1), .val (.int r2), .val (.int r3), .val (.int (0 : Int32)), .val (.int (0 : Int32)), .unset] []) := by
            intro T_J179 h_J179 X_J179 sz_J179
            refine Go.st (T' := T_J179) (g' := (mkF m 180 #[.val (.long p1), .second, .val (.int p2), .val (.long p3), .second, .val (.int sl), .val (.long d1), .second, .val (.long d3), .second, .val (.long y1), .second, .val (.int y2), .val (.long y3), .second, .val (.ref oa), .val (.ref ob), .val (.int ex), .val .null, .val (.ref ol), .val (.int r1), .val (.int r2), .val (.int r3), .val (.int (0 : Int32)), .val (.int (0 : Int32)), .unset] [(.int (1 : Int32))])) (fun t_ k_ => XS.iconst X_J179.here hx rfl (hb hby at_179) k_) ?_
            refine Go.st (T' := T_J179) (g' := (mkF m 184 #[.val (.long p1), .second, .val (.int p2), .val (.long p3), .second, .val (.int sl), .val (.long d1), .second, .val (.long d3), .second, .val (.long y1), .second, .val (.int y2), .val (.long y3), .second, .val (.ref oa), .val (.ref ob), .val (.int ex), .val .null, .val (.ref ol), .val (.int r1), .val (.int r2), .val (.int r3), .val (.int (0 : Int32)), .val (.int (0 : Int32)), .unset] [(.int (1 : Int32))])) (fun t_ k_ => XS.goto X_J179.here hx rfl (pc0 := 180) (pc' := 184) rfl (hb hby at_180) (by decide) (by decide) k_) ?_
            refine Go.st (T' := T_J179) (g' := (mkF m 186 #[.val (.long p1), .second, .val (.int p2), .val (.long p3), .second, .val (.int sl), .val (.long d1), .second, .val (.long d3), .second, .val (.long y1), .second, .val (.int y2), .val (.long y3), .second, .val (.ref oa), .val (.ref ob), .val (.int ex), .val .null, .val (.ref ol), .val (.int r1), .val (.int r2), .val (.int r3), .val (.int (0 : Int32)), .val (.int (0 : Int32)), .val (.int (1 : Int32))] [])) (fun t_ k_ => XS.istore X_J179.here hx rfl (hb hby at_184) rfl (l' := #[.val (.long p1), .second, .val (.int p2), .val (.long p3), .second, .val (.int sl), .val (.long d1), .second, .val (.long d3), .second, .val (.long y1), .second, .val (.int y2), .val (.long y3), .second, .val (.ref oa), .val (.ref ob), .val (.int ex), .val .null, .val (.ref ol), .val (.int r1), .val (.int r2), .val (.int r3), .val (.int (0 : Int32)), .val (.int (0 : Int32)), .val (.int (1 : Int32))]) rfl k_) ?_
            refine Go.st (T' := T_J179) (g' := (mkF m 188 #[.val (.long p1), .second, .val (.int p2), .val (.long p3), .second, .val (.int sl), .val (.long d1), .second, .val (.long d3), .second, .val (.long y1), .second, .val (.int y2), .val (.long y3), .second, .val (.ref oa), .val (.ref ob), .val (.int ex), .val .null, .val (.ref ol), .val (.int r1), .val (.int r2), .val (.int r3), .val (.int (0 : Int32)), .val (.int (0 : Int32)), .val (.int (1 : Int32))] [(.int r1)])) (fun t_ k_ => XS.iload X_J179.here hx rfl (hb hby at_186) rfl k_) ?_
            refine Go.st (T' := T_J179) (g' := (mkF m 190 #[.val (.long p1), .second, .val (.int p2), .val (.long p3), .second, .val (.int sl), .val (.long d1), .second, .val (.long d3), .second, .val (.long y1), .second, .val (.int y2), .val (.long y3), .second, .val (.ref oa), .val (.ref ob), .val (.int ex), .val .null, .val (.ref ol), .val (.int r1), .val (.int r2), .val (.int r3), .val (.int (0 : Int32)), .val (.int (0 : Int32)), .val (.int (1 : Int32))] [(.int ex), (.int r1)])) (fun t_ k_ => XS.iload X_J179.here hx rfl (hb hby at_188) rfl k_) ?_
            have hc190 : r1 = ex := own_is_eq t1 (own_isx h_ex) Iff.rfl
            refine Go.st (T' := T_J179) (g' := (mkF m 193 #[.val (.long p1), .second, .val (.int p2), .val (.long p3), .second, .val (.int sl), .val (.long d1), .second, .val (.long d3), .second, .val (.long y1), .second, .val (.int y2), .val (.long y3), .second, .val (.ref oa), .val (.ref ob), .val (.int ex), .val .null, .val (.ref ol), .val (.int r1), .val (.int r2), .val (.int r3), .val (.int (0 : Int32)), .val (.int (0 : Int32)), .val (.int (1 : Int32))] [])) (fun t_ k_ => XS.icmpNo X_J179.here hx rfl (hb hby at_190) rfl (teq hc190).2 k_) ?_
            refine Go.st (T' := T_J179) (g' := (mkF m 195 #[.val (.long p1), .second, .val (.int p2), .val (.long p3), .second, .val (.int sl), .val (.long d1), .second, .val (.long d3), .second, .val (.long y1), .second, .val (.int y2), .val (.long y3), .second, .val (.ref oa), .val (.ref ob), .val (.int ex), .val .null, .val (.ref ol), .val (.int r1), .val (.int r2), .val (.int r3), .val (.int (0 : Int32)), .val (.int (0 : Int32)), .val (.int (1 : Int32))] [(.int r2)])) (fun t_ k_ => XS.iload X_J179.here hx rfl (hb hby at_193) rfl k_) ?_
            refine Go.st (T' := T_J179) (g' := (mkF m 197 #[.val (.long p1), .second, .val (.int p2), .val (.long p3), .second, .val (.int sl), .val (.long d1), .second, .val (.long d3), .second, .val (.long y1), .second, .val (.int y2), .val (.long y3), .second, .val (.ref oa), .val (.ref ob), .val (.int ex), .val .null, .val (.ref ol), .val (.int r1), .val (.int r2), .val (.int r3), .val (.int (0 : Int32)), .val (.int (0 : Int32)), .val (.int (1 : Int32))] [(.int ex), (.int r2)])) (fun t_ k_ => XS.iload X_J179.here hx rfl (hb hby at_195) rfl k_) ?_
            have hc197 : r2 = ex := own_is_eq t2 (own_isx h_ex) ⟨fun z => ⟨z.1.symm, z.2.1.symm, z.2.2.symm⟩, fun z => ⟨z.1.symm, z.2.1.symm, z.2.2.symm⟩⟩
            refine Go.st (T' := T_J179) (g' := (mkF m 200 #[.val (.long p1), .second, .val (.int p2), .val (.long p3), .second, .val (.int sl), .val (.long d1), .second, .val (.long d3), .second, .val (.long y1), .second, .val (.int y2), .val (.long y3), .second, .val (.ref oa), .val (.ref ob), .val (.int ex), .val .null, .val (.ref ol), .val (.int r1), .val (.int r2), .val (.int r3), .val (.int (0 : Int32)), .val (.int (0 : Int32)), .val (.int (1 : Int32))] [])) (fun t_ k_ => XS.icmpNo X_J179.here hx rfl (hb hby at_197) rfl (teq hc197).2 k_) ?_
            refine Go.st (T' := T_J179) (g' := (mkF m 202 #[.val (.long p1), .second, .val (.int p2), .val (.long p3), .second, .val (.int sl), .val (.long d1), .second, .val (.long d3), .second, .val (.long y1), .second, .val (.int y2), .val (.long y3), .second, .val (.ref oa), .val (.ref ob), .val (.int ex), .val .null, .val (.ref ol), .val (.int r1), .val (.int r2), .val (.int r3), .val (.int (0 : Int32)), .val (.int (0 : Int32)), .val (.int (1 : Int32))] [(.int r3)])) (fun t_ k_ => XS.iload X_J179.here hx rfl (hb hby at_200) rfl k_) ?_
            have hc202 : ¬ (r3 = (0 : Int32)) := own_yes t3 ⟨rfl, rfl, rfl⟩
            refine Go.st (T' := T_J179) (g' := (mkF m 205 #[.val (.long p1), .second, .val (.int p2), .val (.long p3), .second, .val (.int sl), .val (.long d1), .second, .val (.long d3), .second, .val (.long y1), .second, .val (.int y2), .val (.long y3), .second, .val (.ref oa), .val (.ref ob), .val (.int ex), .val .null, .val (.ref ol), .val (.int r1), .val (.int r2), .val (.int r3), .val (.int (0 : Int32)), .val (.int (0 : Int32)), .val (.int (1 : Int32))] [])) (fun t_ k_ => XS.ifNo X_J179.here hx rfl (hb hby at_202) rfl ((if0 _ _).trans (feq hc202).1) k_) ?_
            refine Go.st (T' := T_J179) (g' := (mkF m 207 #[.val (.long p1), .second, .val (.int p2), .val (.long p3), .second, .val (.int sl), .val (.long d1), .second, .val (.long d3), .second, .val (.long y1), .second, .val (.int y2), .val (.long y3), .second, .val (.ref oa), .val (.ref ob), .val (.int ex), .val .null, .val (.ref ol), .val (.int r1), .val (.int r2), .val (.int r3), .val (.int (0 : Int32)), .val (.int (0 : Int32)), .val (.int (1 : Int32))] [(.int (0 : Int32))])) (fun t_ k_ => XS.iload X_J179.here hx rfl (hb hby at_205) rfl k_) ?_
            refine Go.st (T' := T_J179) (g' := (mkF m 210 #[.val (.long p1), .second, .val (.int p2), .val (.long p3), .second, .val (.int sl), .val (.long d1), .second, .val (.long d3), .second, .val (.long y1), .second, .val (.int y2), .val (.long y3), .second, .val (.ref oa), .val (.ref ob), .val (.int ex), .val .null, .val (.ref ol), .val (.int r1), .val (.int r2), .val (.int r3), .val (.int (0 : Int32)), .val (.int (0 : Int32)), .val (.int (1 : Int32))] [])) (fun t_ k_ => XS.ifNo X_J179.here hx rfl (hb hby at_207) rfl (by decide) k_) ?_
            refine Go.st (T' := T_J179) (g' := (mkF m 212 #[.val (.long p1), .second, .val (.int p2), .val (.long p3), .second, .val (.int sl), .val (.long d1), .second, .val (.long d3), .second, .val (.long y1), .second, .val (.int y2), .val (.long y3), .second, .val (.ref oa), .val (.ref ob), .val (.int ex), .val .null, .val (.ref ol), .val (.int r1), .val (.int r2), .val (.int r3), .val (.int (0 : Int32)), .val (.int (0 : Int32)), .val (.int (1 : Int32))] [(.int (0 : Int32))])) (fun t_ k_ => XS.iload X_J179.here hx rfl (hb hby at_210) rfl k_) ?_
            refine Go.st (T' := T_J179) (g' := (mkF m 215 #[.val (.long p1), .second, .val (.int p2), .val (.long p3), .second, .val (.int sl), .val (.long d1), .second, .val (.long d3), .second, .val (.long y1), .second, .val (.int y2), .val (.long y3), .second, .val (.ref oa), .val (.ref ob), .val (.int ex), .val .null, .val (.ref ol), .val (.int r1), .val (.int r2), .val (.int r3), .val (.int (0 : Int32)), .val (.int (0 : Int32)), .val (.int (1 : Int32))] [])) (fun t_ k_ => XS.ifNo X_J179.here hx rfl (hb hby at_212) rfl (by decide) k_) ?_
            refine Go.st (T' := T_J179) (g' := (mkF m 217 #[.val (.long p1), .second, .val (.int p2), .val (.long p3), .second, .val (.int sl), .val (.long d1), .second, .val (.long d3), .second, .val (.long y1), .second, .val (.int y2), .val (.long y3), .second, .val (.ref oa), .val (.ref ob), .val (.int ex), .val .null, .val (.ref ol), .val (.int r1), .val (.int r2), .val (.int r3), .val (.int (0 : Int32)), .val (.int (0 : Int32)), .val (.int (1 : Int32))] [(.int (1 : Int32))])) (fun t_ k_ => XS.iload X_J179.here hx rfl (hb hby at_215) rfl k_) ?_
            refine Go.st (T' := T_J179) (g' := (mkF m 220 #[.val (.long p1), .second, .val (.int p2), .val (.long p3), .second, .val (.int sl), .val (.long d1), .second, .val (.long d3), .second, .val (.long y1), .second, .val (.int y2), .val (.long y3), .second, .val (.ref oa), .val (.ref ob), .val (.int ex), .val .null, .val (.ref ol), .val (.int r1), .val (.int r2), .val (.int r3), .val (.int (0 : Int32)), .val (.int (0 : Int32)), .val (.int (1 : Int32))] [])) (fun t_ k_ => XS.ifNo X_J179.here hx rfl (hb hby at_217) rfl (by decide) k_) ?_
            refine Go.st (T' := T_J179) (g' := (mkF m 221 #[.val (.long p1), .second, .val (.int p2), .val (.long p3), .second, .val (.int sl), .val (.long d1), .second, .val (.long d3), .second, .val (.long y1), .second, .val (.int y2), .val (.long y3), .second, .val (.ref oa), .val (.ref ob), .val (.int ex), .val .null, .val (.ref ol), .val (.int r1), .val (.int r2), .val (.int r3), .val (.int (0 : Int32)), .val (.int (0 : Int32)), .val (.int (1 : Int32))] [(.int (1 : Int32))])) (fun t_ k_ => XS.iconst X_J179.here hx rfl (hb hby at_220) k_) ?_
            refine Go.st (T' := T_J179) (g' := (mkF m 225 #[.val (.long p1), .second, .val (.int p2), .val (.long p3), .second, .val (.int sl), .val (.long d1), .second, .val (.long d3), .second, .val (.long y1), .second, .val (.int y2), .val (.long y3), .second, .val (.ref oa), .val (.ref ob), .val (.int ex), .val .null, .val (.ref ol), .val (.int r1), .val (.int r2), .val (.int r3), .val (.int (0 : Int32)), .val (.int (0 : Int32)), .val (.int (1 : Int32))] [(.int (1 : Int32))])) (fun t_ k_ => XS.goto X_J179.here hx rfl (pc0 := 221) (pc' := 225) rfl (hb hby at_221) (by decide) (by decide) k_) ?_
            refine goRetZ X_J179 hx hlk hret (hb hby at_225) (by decide) (by decide) (Or.inr rfl) ?_
            exact rfl
          by_cases hc163 : ex = (0 : Int32)
          · skip
            refine Go.st (T' := T14) (g' := (mkF m 179 #[.val (.long p1), .second, .val (.int p2), .val (.long p3), .second, .val (.int sl), .val (.long d1), .second, .val (.long d3), .second, .val (.long y1), .second, .val (.int y2), .val (.long y3), .second, .val (.ref oa), .val (.ref ob), .val (.int ex), .val .null, .val (.ref ol), .val (.int r1), .val (.int r2), .val (.int r3), .val (.int (0 : Int32)), .val (.int (0 : Int32)), .unset] [])) (fun t_ k_ => XS.ifYes X14.here hx rfl (pc0 := 163) (pc' := 179) rfl (hb hby at_163) rfl ((if0 _ _).trans (teq hc163).1) (by decide) (by decide) k_) ?_
            exact J179 T14 h9 (X14.mono (by decide) (by decide)) sz9
          · skip
            refine Go.st (T' := T14) (g' := (mkF m 166 #[.val (.long p1), .second, .val (.int p2), .val (.long p3), .second, .val (.int sl), .val (.long d1), .second, .val (.long d3), .second, .val (.long y1), .second, .val (.int y2), .val (.long y3), .second, .val (.ref oa), .val (.ref ob), .val (.int ex), .val .null, .val (.ref ol), .val (.int r1), .val (.int r2), .val (.int r3), .val (.int (0 : Int32)), .val (.int (0 : Int32)), .unset] [])) (fun t_ k_ => XS.ifNo X14.here hx rfl (hb hby at_163) rfl ((if0 _ _).trans (feq hc163).1) k_) ?_
            refine Go.st (T' := T14) (g' := (mkF m 168 #[.val (.long p1), .second, .val (.int p2), .val (.long p3), .second, .val (.int sl), .val (.long d1), .second, .val (.long d3), .second, .val (.long y1), .second, .val (.int y2), .val (.long y3), .second, .val (.ref oa), .val (.ref ob), .val (.int ex), .val .null, .val (.ref ol), .val (.int r1), .val (.int r2), .val (.int r3), .val (.int (0 : Int32)), .val (.int (0 : Int32)), .unset] [(.ref oa)])) (fun t_ k_ => XS.aload X14.here hx rfl (hb hby at_166) rfl rfl k_) ?_
            refine goVirtS X14 hx hZ (y := (⟨"com/example/keelstore/keelstore/layout/ConsumeQueueEntry", "hashCode", "()I"⟩ : MethodName)) hown (hw _ (List.mem_of_getElem? (i := 53) rfl)) (hw _ (List.mem_of_getElem? (i := 54) rfl)) (hw _ (List.mem_of_getElem? (i := 56) rfl)) (hw _ (List.mem_of_getElem? (i := 55) rfl)) (hw _ (List.mem_of_getElem? (i := 2) rfl)) (hw _ (List.mem_of_getElem? (i := 57) rfl)) (by decide) f9_5 (rm8 l Z a0 hw [] n0 h9 oa p1 p2 p3 sz9 f9_6 f9_7 f9_8) 0 (by decide) (by decide) (by rw [hml]; rfl) [] [] (lenOf pd_8259a895 rfl) rfl rfl rfl (hb hby at_168) (by decide) (by decide) fun v15 T15 h15 X15 hq15 => ?_
            obtain ⟨rfl, eh15⟩ := hq15
            rw [eh15] at X15
            show Go p e below _ T15 (mkF m 171 #[.val (.long p1), .second, .val (.int p2), .val (.long p3), .second, .val (.int sl), .val (.long d1), .second, .val (.long d3), .second, .val (.long y1), .second, .val (.int y2), .val (.long y3), .second, .val (.ref oa), .val (.ref ob), .val (.int ex), .val .null, .val (.ref ol), .val (.int r1), .val (.int r2), .val (.int r3), .val (.int (0 : Int32)), .val (.int (0 : Int32)), .unset] [(.int ((((31 : Int32) * own_h p1) + p2) * (31 : Int32) + own_h p3))])
            refine Go.st (T' := T15) (g' := (mkF m 173 #[.val (.long p1), .second, .val (.int p2), .val (.long p3), .second, .val (.int sl), .val (.long d1), .second, .val (.long d3), .second, .val (.long y1), .second, .val (.int y2), .val (.long y3), .second, .val (.ref oa), .val (.ref ob), .val (.int ex), .val .null, .val (.ref ol), .val (.int r1), .val (.int r2), .val (.int r3), .val (.int (0 : Int32)), .val (.int (0 : Int32)), .unset] [(.ref ob), (.int ((((31 : Int32) * own_h p1) + p2) * (31 : Int32) + own_h p3))])) (fun t_ k_ => XS.aload X15.here hx rfl (hb hby at_171) rfl rfl k_) ?_
            refine goVirtS X15 hx hZ (y := (⟨"com/example/keelstore/keelstore/layout/ConsumeQueueEntry", "hashCode", "()I"⟩ : MethodName)) hown (hw _ (List.mem_of_getElem? (i := 53) rfl)) (hw _ (List.mem_of_getElem? (i := 54) rfl)) (hw _ (List.mem_of_getElem? (i := 56) rfl)) (hw _ (List.mem_of_getElem? (i := 55) rfl)) (hw _ (List.mem_of_getElem? (i := 2) rfl)) (hw _ (List.mem_of_getElem? (i := 57) rfl)) (by decide) f9_12 (rm8 l Z a0 hw [] n0 h9 ob y1 y2 y3 sz9 f9_13 f9_14 f9_15) 1 (by decide) (by decide) (by rw [hml]; rfl) [] [(.int ((((31 : Int32) * own_h p1) + p2) * (31 : Int32) + own_h p3))] (lenOf pd_8259a895 rfl) rfl rfl rfl (hb hby at_173) (by decide) (by decide) fun v16 T16 h16 X16 hq16 => ?_
            obtain ⟨rfl, eh16⟩ := hq16
            rw [eh16] at X16
            show Go p e below _ T16 (mkF m 176 #[.val (.long p1), .second, .val (.int p2), .val (.long p3), .second, .val (.int sl), .val (.long d1), .second, .val (.long d3), .second, .val (.long y1), .second, .val (.int y2), .val (.long y3), .second, .val (.ref oa), .val (.ref ob), .val (.int ex), .val .null, .val (.ref ol), .val (.int r1), .val (.int r2), .val (.int r3), .val (.int (0 : Int32)), .val (.int (0 : Int32)), .unset] [(.int ((((31 : Int32) * own_h y1) + y2) * (31 : Int32) + own_h y3)), (.int ((((31 : Int32) * own_h p1) + p2) * (31 : Int32) + own_h p3))])
            have hc176 : ((((31 : Int32) * own_h p1) + p2) * (31 : Int32) + own_h p3) = ((((31 : Int32) * own_h y1) + y2) * (31 : Int32) + own_h y3) := by obtain ⟨z1, z2, z3⟩ := own_isT (own_isx h_ex) hc163; rw [z1, z2, z3]
            refine Go.st (T' := T16) (g' := (mkF m 179 #[.val (.long p1), .second, .val (.int p2), .val (.long p3), .second, .val (.int sl), .val (.long d1), .second, .val (.long d3), .second, .val (.long y1), .second, .val (.int y2), .val (.long y3), .second, .val (.ref oa), .val (.ref ob), .val (.int ex), .val .null, .val (.ref ol), .val (.int r1), .val (.int r2), .val (.int r3), .val (.int (0 : Int32)), .val (.int (0 : Int32)), .unset] [])) (fun t_ k_ => XS.icmpNo X16.here hx rfl (hb hby at_176) rfl (teq hc176).2 k_) ?_
            exact J179 T16 h9 (X16.mono (by decide) (by decide)) sz9
        by_cases hc84 : p1 = y1
        · skip
          refine Go.st (T' := T7) (g' := (mkF m 87 #[.val (.long p1), .second, .val (.int p2), .val (.long p3), .second, .val (.int sl), .val (.long d1), .second, .val (.long d3), .second, .val (.long y1), .second, .val (.int y2), .val (.long y3), .second, .val (.ref oa), .val (.ref ob), .unset, .unset, .unset, .unset, .unset, .unset, .unset, .unset, .unset] [])) (fun t_ k_ => XS.ifNo X7.here hx rfl (hb hby at_84) rfl (lcTeq hc84).2 k_) ?_
          refine Go.st (T' := T7) (g' := (mkF m 88 #[.val (.long p1), .second, .val (.int p2), .val (.long p3), .second, .val (.int sl), .val (.long d1), .second, .val (.long d3), .second, .val (.long y1), .second, .val (.int y2), .val (.long y3), .second, .val (.ref oa), .val (.ref ob), .unset, .unset, .unset, .unset, .unset, .unset, .unset, .unset, .unset] [(.int p2)])) (fun t_ k_ => XS.iloadN X7.here hx rfl (hb hby at_87) rfl k_) ?_
          refine Go.st (T' := T7) (g' := (mkF m 90 #[.val (.long p1), .second, .val (.int p2), .val (.long p3), .second, .val (.int sl), .val (.long d1), .second, .val (.long d3), .second, .val (.long y1), .second, .val (.int y2), .val (.long y3), .second, .val (.ref oa), .val (.ref ob), .unset, .unset, .unset, .unset, .unset, .unset, .unset, .unset, .unset] [(.int y2), (.int p2)])) (fun t_ k_ => XS.iload X7.here hx rfl (hb hby at_88) rfl k_) ?_
          by_cases hc90 : p2 = y2
          · skip
            refine Go.st (T' := T7) (g' := (mkF m 93 #[.val (.long p1), .second, .val (.int p2), .val (.long p3), .second, .val (.int sl), .val (.long d1), .second, .val (.long d3), .second, .val (.long y1), .second, .val (.int y2), .val (.long y3), .second, .val (.ref oa), .val (.ref ob), .unset, .unset, .unset, .unset, .unset, .unset, .unset, .unset, .unset] [])) (fun t_ k_ => XS.icmpNo X7.here hx rfl (hb hby at_90) rfl (teq hc90).2 k_) ?_
            refine Go.st (T' := T7) (g' := (mkF m 94 #[.val (.long p1), .second, .val (.int p2), .val (.long p3), .second, .val (.int sl), .val (.long d1), .second, .val (.long d3), .second, .val (.long y1), .second, .val (.int y2), .val (.long y3), .second, .val (.ref oa), .val (.ref ob), .unset, .unset, .unset, .unset, .unset, .unset, .unset, .unset, .unset] [(.long p3)])) (fun t_ k_ => XS.lloadN X7.here hx rfl (hb hby at_93) rfl k_) ?_
            refine Go.st (T' := T7) (g' := (mkF m 96 #[.val (.long p1), .second, .val (.int p2), .val (.long p3), .second, .val (.int sl), .val (.long d1), .second, .val (.long d3), .second, .val (.long y1), .second, .val (.int y2), .val (.long y3), .second, .val (.ref oa), .val (.ref ob), .unset, .unset, .unset, .unset, .unset, .unset, .unset, .unset, .unset] [(.long y3), (.long p3)])) (fun t_ k_ => XS.lload X7.here hx rfl (hb hby at_94) rfl k_) ?_
            refine Go.st (T' := T7) (g' := (mkF m 97 #[.val (.long p1), .second, .val (.int p2), .val (.long p3), .second, .val (.int sl), .val (.long d1), .second, .val (.long d3), .second, .val (.long y1), .second, .val (.int y2), .val (.long y3), .second, .val (.ref oa), .val (.ref ob), .unset, .unset, .unset, .unset, .unset, .unset, .unset, .unset, .unset] [(.int (lcmpW p3 y3))])) (fun t_ k_ => XS.lcmp X7.here hx rfl (hb hby at_96) rfl k_) ?_
            by_cases hc97 : p3 = y3
            · skip
              refine Go.st (T' := T7) (g' := (mkF m 100 #[.val (.long p1), .second, .val (.int p2), .val (.long p3), .second, .val (.int sl), .val (.long d1), .second, .val (.long d3), .second, .val (.long y1), .second, .val (.int y2), .val (.long y3), .second, .val (.ref oa), .val (.ref ob), .unset, .unset, .unset, .unset, .unset, .unset, .unset, .unset, .unset] [])) (fun t_ k_ => XS.ifNo X7.here hx rfl (hb hby at_97) rfl (lcTeq hc97).2 k_) ?_
              refine Go.st (T' := T7) (g' := (mkF m 101 #[.val (.long p1), .second, .val (.int p2), .val (.long p3), .second, .val (.int sl), .val (.long d1), .second, .val (.long d3), .second, .val (.long y1), .second, .val (.int y2), .val (.long y3), .second, .val (.ref oa), .val (.ref ob), .unset, .unset, .unset, .unset, .unset, .unset, .unset, .unset, .unset] [(.int (1 : Int32))])) (fun t_ k_ => XS.iconst X7.here hx rfl (hb hby at_100) k_) ?_
              refine Go.st (T' := T7) (g' := (mkF m 105 #[.val (.long p1), .second, .val (.int p2), .val (.long p3), .second, .val (.int sl), .val (.long d1), .second, .val (.long d3), .second, .val (.long y1), .second, .val (.int y2), .val (.long y3), .second, .val (.ref oa), .val (.ref ob), .unset, .unset, .unset, .unset, .unset, .unset, .unset, .unset, .unset] [(.int (1 : Int32))])) (fun t_ k_ => XS.goto X7.here hx rfl (pc0 := 101) (pc' := 105) rfl (hb hby at_101) (by decide) (by decide) k_) ?_
              exact J105_8 (1 : Int32) (by rw [if_pos hc84, if_pos hc90, if_pos hc97])
            · skip
              refine Go.st (T' := T7) (g' := (mkF m 104 #[.val (.long p1), .second, .val (.int p2), .val (.long p3), .second, .val (.int sl), .val (.long d1), .second, .val (.long d3), .second, .val (.long y1), .second, .val (.int y2), .val (.long y3), .second, .val (.ref oa), .val (.ref ob), .unset, .unset, .unset, .unset, .unset, .unset, .unset, .unset, .unset] [])) (fun t_ k_ => XS.ifYes X7.here hx rfl (pc0 := 97) (pc' := 104) rfl (hb hby at_97) rfl (lcFeq hc97).2 (by decide) (by decide) k_) ?_
              refine Go.st (T' := T7) (g' := (mkF m 105 #[.val (.long p1), .second, .val (.int p2), .val (.long p3), .second, .val (.int sl), .val (.long d1), .second, .val (.long d3), .second, .val (.long y1), .second, .val (.int y2), .val (.long y3), .second, .val (.ref oa), .val (.ref ob), .unset, .unset, .unset, .unset, .unset, .unset, .unset, .unset, .unset] [(.int (0 : Int32))])) (fun t_ k_ => XS.iconst X7.here hx rfl (hb hby at_104) k_) ?_
              exact J105_8 (0 : Int32) (by rw [if_pos hc84, if_pos hc90, if_neg hc97])
          · skip
            refine Go.st (T' := T7) (g' := (mkF m 104 #[.val (.long p1), .second, .val (.int p2), .val (.long p3), .second, .val (.int sl), .val (.long d1), .second, .val (.long d3), .second, .val (.long y1), .second, .val (.int y2), .val (.long y3), .second, .val (.ref oa), .val (.ref ob), .unset, .unset, .unset, .unset, .unset, .unset, .unset, .unset, .unset] [])) (fun t_ k_ => XS.icmpYes X7.here hx rfl (pc0 := 90) (pc' := 104) rfl (hb hby at_90) rfl (feq hc90).2 (by decide) (by decide) k_) ?_
            refine Go.st (T' := T7) (g' := (mkF m 105 #[.val (.long p1), .second, .val (.int p2), .val (.long p3), .second, .val (.int sl), .val (.long d1), .second, .val (.long d3), .second, .val (.long y1), .second, .val (.int y2), .val (.long y3), .second, .val (.ref oa), .val (.ref ob), .unset, .unset, .unset, .unset, .unset, .unset, .unset, .unset, .unset] [(.int (0 : Int32))])) (fun t_ k_ => XS.iconst X7.here hx rfl (hb hby at_104) k_) ?_
            exact J105_8 (0 : Int32) (by rw [if_pos hc84, if_neg hc90])
        · skip
          refine Go.st (T' := T7) (g' := (mkF m 104 #[.val (.long p1), .second, .val (.int p2), .val (.long p3), .second, .val (.int sl), .val (.long d1), .second, .val (.long d3), .second, .val (.long y1), .second, .val (.int y2), .val (.long y3), .second, .val (.ref oa), .val (.ref ob), .unset, .unset, .unset, .unset, .unset, .unset, .unset, .unset, .unset] [])) (fun t_ k_ => XS.ifYes X7.here hx rfl (pc0 := 84) (pc' := 104) rfl (hb hby at_84) rfl (lcFeq hc84).2 (by decide) (by decide) k_) ?_
          refine Go.st (T' := T7) (g' := (mkF m 105 #[.val (.long p1), .second, .val (.int p2), .val (.long p3), .second, .val (.int sl), .val (.long d1), .second, .val (.long d3), .second, .val (.long y1), .second, .val (.int y2), .val (.long y3), .second, .val (.ref oa), .val (.ref ob), .unset, .unset, .unset, .unset, .unset, .unset, .unset, .unset, .unset] [(.int (0 : Int32))])) (fun t_ k_ => XS.iconst X7.here hx rfl (hb hby at_104) k_) ?_
          exact J105_8 (0 : Int32) (by rw [if_neg hc84])
      by_cases hc40 : (sl &&& (4 : Int32)) = (0 : Int32)
      · skip
        refine Go.st (T' := s₁) (g' := (mkF m 47 #[.val (.long p1), .second, .val (.int p2), .val (.long p3), .second, .val (.int sl), .val (.long d1), .second, .val (.long d3), .second, .val (.long y1), .second, .val (.int y2), .unset, .unset, .unset, .unset, .unset, .unset, .unset, .unset, .unset, .unset, .unset, .unset, .unset] [])) (fun t_ k_ => XS.ifYes X0.here hx rfl (pc0 := 40) (pc' := 47) rfl (hb hby at_40) rfl ((if0 _ _).trans (teq hc40).1) (by decide) (by decide) k_) ?_
        refine Go.st (T' := s₁) (g' := (mkF m 48 #[.val (.long p1), .second, .val (.int p2), .val (.long p3), .second, .val (.int sl), .val (.long d1), .second, .val (.long d3), .second, .val (.long y1), .second, .val (.int y2), .unset, .unset, .unset, .unset, .unset, .unset, .unset, .unset, .unset, .unset, .unset, .unset, .unset] [(.long p3)])) (fun t_ k_ => XS.lloadN X0.here hx rfl (hb hby at_47) rfl k_) ?_
        refine Go.st (T' := s₁) (g' := (mkF m 50 #[.val (.long p1), .second, .val (.int p2), .val (.long p3), .second, .val (.int sl), .val (.long d1), .second, .val (.long d3), .second, .val (.long y1), .second, .val (.int y2), .unset, .unset, .unset, .unset, .unset, .unset, .unset, .unset, .unset, .unset, .unset, .unset, .unset] [(.long d3), (.long p3)])) (fun t_ k_ => XS.lload X0.here hx rfl (hb hby at_48) rfl k_) ?_
        refine Go.st (T' := s₁) (g' := (mkF m 51 #[.val (.long p1), .second, .val (.int p2), .val (.long p3), .second, .val (.int sl), .val (.long d1), .second, .val (.long d3), .second, .val (.long y1), .second, .val (.int y2), .unset, .unset, .unset, .unset, .unset, .unset, .unset, .unset, .unset, .unset, .unset, .unset, .unset] [(.long (p3 + d3))])) (fun t_ k_ => XS.ladd X0.here hx rfl (hb hby at_50) rfl k_) ?_
        exact J51_3 (p3 + d3) (by rw [if_pos hc40])
      · skip
        refine Go.st (T' := s₁) (g' := (mkF m 43 #[.val (.long p1), .second, .val (.int p2), .val (.long p3), .second, .val (.int sl), .val (.long d1), .second, .val (.long d3), .second, .val (.long y1), .second, .val (.int y2), .unset, .unset, .unset, .unset, .unset, .unset, .unset, .unset, .unset, .unset, .unset, .unset, .unset] [])) (fun t_ k_ => XS.ifNo X0.here hx rfl (hb hby at_40) rfl ((if0 _ _).trans (feq hc40).1) k_) ?_
        refine Go.st (T' := s₁) (g' := (mkF m 44 #[.val (.long p1), .second, .val (.int p2), .val (.long p3), .second, .val (.int sl), .val (.long d1), .second, .val (.long d3), .second, .val (.long y1), .second, .val (.int y2), .unset, .unset, .unset, .unset, .unset, .unset, .unset, .unset, .unset, .unset, .unset, .unset, .unset] [(.long p3)])) (fun t_ k_ => XS.lloadN X0.here hx rfl (hb hby at_43) rfl k_) ?_
        refine Go.st (T' := s₁) (g' := (mkF m 51 #[.val (.long p1), .second, .val (.int p2), .val (.long p3), .second, .val (.int sl), .val (.long d1), .second, .val (.long d3), .second, .val (.long y1), .second, .val (.int y2), .unset, .unset, .unset, .unset, .unset, .unset, .unset, .unset, .unset, .unset, .unset, .unset, .unset] [(.long p3)])) (fun t_ k_ => XS.goto X0.here hx rfl (pc0 := 44) (pc' := 51) rfl (hb hby at_44) (by decide) (by decide) k_) ?_
        exact J51_3 p3 (by rw [if_neg hc40])
    by_cases hc21 : (sl &&& (2 : Int32)) = (0 : Int32)
    · skip
      refine Go.st (T' := s₁) (g' := (mkF m 28 #[.val (.long p1), .second, .val (.int p2), .val (.long p3), .second, .val (.int sl), .val (.long d1), .second, .val (.long d3), .second, .val (.long y1), .second, .unset, .unset, .unset, .unset, .unset, .unset, .unset, .unset, .unset, .unset, .unset, .unset, .unset, .unset] [])) (fun t_ k_ => XS.ifYes X0.here hx rfl (pc0 := 21) (pc' := 28) rfl (hb hby at_21) rfl ((if0 _ _).trans (teq hc21).1) (by decide) (by decide) k_) ?_
      refine Go.st (T' := s₁) (g' := (mkF m 29 #[.val (.long p1), .second, .val (.int p2), .val (.long p3), .second, .val (.int sl), .val (.long d1), .second, .val (.long d3), .second, .val (.long y1), .second, .unset, .unset, .unset, .unset, .unset, .unset, .unset, .unset, .unset, .unset, .unset, .unset, .unset, .unset] [(.int p2)])) (fun t_ k_ => XS.iloadN X0.here hx rfl (hb hby at_28) rfl k_) ?_
      refine Go.st (T' := s₁) (g' := (mkF m 31 #[.val (.long p1), .second, .val (.int p2), .val (.long p3), .second, .val (.int sl), .val (.long d1), .second, .val (.long d3), .second, .val (.long y1), .second, .unset, .unset, .unset, .unset, .unset, .unset, .unset, .unset, .unset, .unset, .unset, .unset, .unset, .unset] [(.int sl), (.int p2)])) (fun t_ k_ => XS.iload X0.here hx rfl (hb hby at_29) rfl k_) ?_
      refine Go.st (T' := s₁) (g' := (mkF m 32 #[.val (.long p1), .second, .val (.int p2), .val (.long p3), .second, .val (.int sl), .val (.long d1), .second, .val (.long d3), .second, .val (.long y1), .second, .unset, .unset, .unset, .unset, .unset, .unset, .unset, .unset, .unset, .unset, .unset, .unset, .unset, .unset] [(.int (3 : Int32)), (.int sl), (.int p2)])) (fun t_ k_ => XS.iconst X0.here hx rfl (hb hby at_31) k_) ?_
      refine Go.st (T' := s₁) (g' := (mkF m 33 #[.val (.long p1), .second, .val (.int p2), .val (.long p3), .second, .val (.int sl), .val (.long d1), .second, .val (.long d3), .second, .val (.long y1), .second, .unset, .unset, .unset, .unset, .unset, .unset, .unset, .unset, .unset, .unset, .unset, .unset, .unset, .unset] [(.int (sl >>> ((3 : Int32) &&& 31))), (.int p2)])) (fun t_ k_ => XS.ishr X0.here hx rfl (hb hby at_32) rfl k_) ?_
      refine Go.st (T' := s₁) (g' := (mkF m 34 #[.val (.long p1), .second, .val (.int p2), .val (.long p3), .second, .val (.int sl), .val (.long d1), .second, .val (.long d3), .second, .val (.long y1), .second, .unset, .unset, .unset, .unset, .unset, .unset, .unset, .unset, .unset, .unset, .unset, .unset, .unset, .unset] [(.int (p2 + (sl >>> ((3 : Int32) &&& 31))))])) (fun t_ k_ => XS.iadd X0.here hx rfl (hb hby at_33) rfl k_) ?_
      exact J34_2 (p2 + (sl >>> ((3 : Int32) &&& 31))) (by rw [if_pos hc21])
    · skip
      refine Go.st (T' := s₁) (g' := (mkF m 24 #[.val (.long p1), .second, .val (.int p2), .val (.long p3), .second, .val (.int sl), .val (.long d1), .second, .val (.long d3), .second, .val (.long y1), .second, .unset, .unset, .unset, .unset, .unset, .unset, .unset, .unset, .unset, .unset, .unset, .unset, .unset, .unset] [])) (fun t_ k_ => XS.ifNo X0.here hx rfl (hb hby at_21) rfl ((if0 _ _).trans (feq hc21).1) k_) ?_
      refine Go.st (T' := s₁) (g' := (mkF m 25 #[.val (.long p1), .second, .val (.int p2), .val (.long p3), .second, .val (.int sl), .val (.long d1), .second, .val (.long d3), .second, .val (.long y1), .second, .unset, .unset, .unset, .unset, .unset, .unset, .unset, .unset, .unset, .unset, .unset, .unset, .unset, .unset] [(.int p2)])) (fun t_ k_ => XS.iloadN X0.here hx rfl (hb hby at_24) rfl k_) ?_
      refine Go.st (T' := s₁) (g' := (mkF m 34 #[.val (.long p1), .second, .val (.int p2), .val (.long p3), .second, .val (.int sl), .val (.long d1), .second, .val (.long d3), .second, .val (.long y1), .second, .unset, .unset, .unset, .unset, .unset, .unset, .unset, .unset, .unset, .unset, .unset, .unset, .unset, .unset] [(.int p2)])) (fun t_ k_ => XS.goto X0.here hx rfl (pc0 := 25) (pc' := 34) rfl (hb hby at_25) (by decide) (by decide) k_) ?_
      exact J34_2 p2 (by rw [if_neg hc21])
  by_cases hc4 : (sl &&& (1 : Int32)) = (0 : Int32)
  · skip
    refine Go.st (T' := s₁) (g' := (mkF m 11 #[.val (.long p1), .second, .val (.int p2), .val (.long p3), .second, .val (.int sl), .val (.long d1), .second, .val (.long d3), .second, .unset, .unset, .unset, .unset, .unset, .unset, .unset, .unset, .unset, .unset, .unset, .unset, .unset, .unset, .unset, .unset] [])) (fun t_ k_ => XS.ifYes X0.here hx rfl (pc0 := 4) (pc' := 11) rfl (hb hby at_4) rfl ((if0 _ _).trans (teq hc4).1) (by decide) (by decide) k_) ?_
    refine Go.st (T' := s₁) (g' := (mkF m 12 #[.val (.long p1), .second, .val (.int p2), .val (.long p3), .second, .val (.int sl), .val (.long d1), .second, .val (.long d3), .second, .unset, .unset, .unset, .unset, .unset, .unset, .unset, .unset, .unset, .unset, .unset, .unset, .unset, .unset, .unset, .unset] [(.long p1)])) (fun t_ k_ => XS.lloadN X0.here hx rfl (hb hby at_11) rfl k_) ?_
    refine Go.st (T' := s₁) (g' := (mkF m 14 #[.val (.long p1), .second, .val (.int p2), .val (.long p3), .second, .val (.int sl), .val (.long d1), .second, .val (.long d3), .second, .unset, .unset, .unset, .unset, .unset, .unset, .unset, .unset, .unset, .unset, .unset, .unset, .unset, .unset, .unset, .unset] [(.long d1), (.long p1)])) (fun t_ k_ => XS.lload X0.here hx rfl (hb hby at_12) rfl k_) ?_
    refine Go.st (T' := s₁) (g' := (mkF m 15 #[.val (.long p1), .second, .val (.int p2), .val (.long p3), .second, .val (.int sl), .val (.long d1), .second, .val (.long d3), .second, .unset, .unset, .unset, .unset, .unset, .unset, .unset, .unset, .unset, .unset, .unset, .unset, .unset, .unset, .unset, .unset] [(.long (p1 + d1))])) (fun t_ k_ => XS.ladd X0.here hx rfl (hb hby at_14) rfl k_) ?_
    exact J15_1 (p1 + d1) (by rw [if_pos hc4])
  · skip
    refine Go.st (T' := s₁) (g' := (mkF m 7 #[.val (.long p1), .second, .val (.int p2), .val (.long p3), .second, .val (.int sl), .val (.long d1), .second, .val (.long d3), .second, .unset, .unset, .unset, .unset, .unset, .unset, .unset, .unset, .unset, .unset, .unset, .unset, .unset, .unset, .unset, .unset] [])) (fun t_ k_ => XS.ifNo X0.here hx rfl (hb hby at_4) rfl ((if0 _ _).trans (feq hc4).1) k_) ?_
    refine Go.st (T' := s₁) (g' := (mkF m 8 #[.val (.long p1), .second, .val (.int p2), .val (.long p3), .second, .val (.int sl), .val (.long d1), .second, .val (.long d3), .second, .unset, .unset, .unset, .unset, .unset, .unset, .unset, .unset, .unset, .unset, .unset, .unset, .unset, .unset, .unset, .unset] [(.long p1)])) (fun t_ k_ => XS.lloadN X0.here hx rfl (hb hby at_7) rfl k_) ?_
    refine Go.st (T' := s₁) (g' := (mkF m 15 #[.val (.long p1), .second, .val (.int p2), .val (.long p3), .second, .val (.int sl), .val (.long d1), .second, .val (.long d3), .second, .unset, .unset, .unset, .unset, .unset, .unset, .unset, .unset, .unset, .unset, .unset, .unset, .unset, .unset, .unset, .unset] [(.long p1)])) (fun t_ k_ => XS.goto X0.here hx rfl (pc0 := 8) (pc' := 15) rfl (hb hby at_8) (by decide) (by decide) k_) ?_
    exact J15_1 p1 (by rw [if_neg hc4])

theorem own_len {args : Array Value} {first s : State} {o : Option Outcome} {idx : List Nat} {t : Term} {a : Addr} {cell : Cell} {k : Int32} (ht : t.eval args first o idx s = some (.ref a)) (hc : s.arrayAt? a = some cell) (h : (Term.length t).eval args first o idx s = some (.int k)) : cell.slots.size < 2 ^ 31 ∧ cell.slots.size.toInt32 = k := by
  by_cases q : cell.slots.size < 2 ^ 31
  · rw [len_f ht hc q] at h
    exact ⟨q, by cases h; rfl⟩
  · simp [Term.eval, ht, hc, q] at h

set_option maxRecDepth 65536 in
set_option maxHeartbeats 40000000 in
theorem comes_1 {Post : Tables → Env → Array Value → State → Outcome → State → Prop} (hpost : ∀ tb e args s v u, (limb_1_1.after args s (.returned v) u = true ∧ limb_1_2.after args s (.returned v) u = true ∧ True) → FrameEnd s (.returned v) u (Jvm.fieldLocs frame_1_writes args s ++ Jvm.arrayLocs frame_1_arrays args s ++ Jvm.staticLocs frame_1_statics s) 16 128 → Post tb e args s (.returned v) u) :
    ArmFor flags0 classFile x code maxLocals ret World_1 tables_1 room_1 Calls_1 rest_1 Pre_1 Post := by
  intro l hfl _ _ p e ha hc hk s m args below hf hA hF happ hP
  obtain ⟨hcalls, hrest, hpre⟩ := hP
  obtain ⟨-, -, -, hnamed, -, -, -, hat⟩ := (Spec.applies_iff hf).mp happ
  obtain ⟨hg, hn⟩ := and_e (Cond.before_iff.mp (show (Jvm.Cond.and given_1 narrow_1).before args s = true from hpre))
  obtain ⟨hcnt, hg⟩ := and_e hg
  obtain ⟨ha0, hg⟩ := and_e hg
  obtain ⟨ha1, hg⟩ := and_e hg
  obtain ⟨ha2, hg⟩ := and_e hg
  obtain ⟨ha3, hg⟩ := and_e hg
  obtain ⟨ha4, hg⟩ := and_e hg
  have ha5 := hg
  obtain ⟨w0, w1, w2, w3, w4, w5, rfl⟩ : ∃ w0 w1 w2 w3 w4 w5 : Value, args = #[w0, w1, w2, w3, w4, w5] := by
    have hs : args.size = 6 := by simpa [Cond.value, given_1] using hcnt
    obtain ⟨L⟩ := args
    match L, hs with
    | [w0, w1, w2, w3, w4, w5], _ => exact ⟨w0, w1, w2, w3, w4, w5, rfl⟩
  have hw := fun d (hd : d ∈ tables_1) => atoms_spec (ws := Jvm.Cond.code x code maxLocals ret :: tables_1) hat d (List.mem_cons_of_mem _ hd)
  have hfit : Fit s := fun {y c} hc i hi => by
    obtain ⟨ha, rfl⟩ := Array.getElem?_eq_some_iff.mp hc
    have q := List.all_eq_true.mp ((Array.all_eq_true_iff_forall_mem.mp hF) _ (Array.getElem_mem ha)) i (List.mem_range.mpr hi)
    simpa [Array.getElem?_eq_getElem hi] using q
  obtain ⟨hsets, hown0⟩ := atoms_of _ (rest_1_c_eq ▸ (show rest_1_c.before _ s = true from hrest))
  have hr0 := Cond.before_iff.mp hown0
  obtain ⟨i0, ei0⟩ := isL_v ha0
  obtain rfl : w0 = (.long i0) := Option.some.inj ei0
  obtain ⟨i1, ei1⟩ := is_v ha1
  obtain rfl : w1 = (.int i1) := Option.some.inj ei1
  obtain ⟨i2, ei2⟩ := isL_v ha2
  obtain rfl : w2 = (.long i2) := Option.some.inj ei2
  obtain ⟨i3, ei3⟩ := is_v ha3
  obtain rfl : w3 = (.int i3) := Option.some.inj ei3
  obtain ⟨i4, ei4⟩ := isL_v ha4
  obtain rfl : w4 = (.long i4) := Option.some.inj ei4
  obtain ⟨i5, ei5⟩ := isL_v ha5
  obtain rfl : w5 = (.long i5) := Option.some.inj ei5
  have hA0 := Cond.before_iff.mp (hsets _ (List.mem_of_getElem? (i := 2) rfl))
  obtain ⟨wc, ewc⟩ := arr_v hA0
  have et : ∀ idx, (Term.static "java/lang/Long$LongCache" "cache" "[Ljava/lang/Long;").eval #[.long i0, .int i1, .long i2, .int i3, .long i4, .long i5] s none idx s = some (.ref wc) := fun idx => ewc
  obtain ⟨cl, hAr⟩ := Arr.start ewc hA0
  have hS : Sta s s.heap "java/lang/Long$LongCache" "cache" "[Ljava/lang/Long;" (.ref wc) := Sta.start ewc (Or.inl (hsets _ (List.mem_of_getElem? (i := 1) rfl)))
  have hcl := hAr.fin (Vm.Alike.refl _)
  obtain ⟨hsz, hsz2⟩ := own_len ewc hcl (eqv_i (F := Term.int 256) rfl (Cond.before_iff.mp (hsets _ (List.mem_of_getElem? (i := 4) rfl))))
  have hsize : cl.slots.size = 256 := by
    have e := len_toInt hsz
    rw [hsz2] at e
    simp only [Int32.reduceToInt] at e
    omega
  have hall := Cond.before_iff.mp (hsets _ (List.mem_of_getElem? (i := 5) rfl))
  have hel : ∀ i, i < 256 → ∃ w, cl.slots[i]? = some (.ref w) ∧ Exa s s.heap w "java/lang/Long" := fun i hi => by
    obtain ⟨z1, z2⟩ := z_of (n := i) (by omega)
    obtain ⟨u1, -⟩ := and_e (Cond.all_elim ewc hcl hall i.toInt32.toNatClampNeg (by rw [z1]; omega))
    obtain ⟨box, eb⟩ := exa_v u1
    refine ⟨box, ?_, exa_at eb u1⟩
    have q := (elem_f (et _) (idx_at z2) hcl z2).symm.trans eb
    rw [z1] at q
    exact q
  have hA : Ary s s.heap wc (.object "java/lang/Long") 256 (fun i => (cl.slots[i]?).getD .null) := ⟨cl, hAr, hsize, fun i hi => by obtain ⟨w, ew, -⟩ := hel i hi; simp [ew]⟩
  have hC : ∀ i, i < 256 → ∃ w, (fun i => (cl.slots[i]?).getD .null) i = Value.ref w ∧ Exa s s.heap w "java/lang/Long" := fun i hi => by obtain ⟨w, ew, E⟩ := hel i hi; exact ⟨w, by simp [ew], E⟩
  obtain ⟨n, o, h1, h2, h3, v, L, rfl, ⟨N, hv⟩, hq⟩ := rm0 l s _ hw tables_1 s.heap.size s.heap i0 i1 i2 i3 i4 i5 wc (fun i => (cl.slots[i]?).getD .null) (Nat.le_refl _) hS hA hC p e ha hc hk s m _ below hf ((Spec.applies_iff_loose hf).mp happ).1 ⟨rfl, State.Warmed39.refl s, rfl⟩ trivial
  obtain rfl : v = some (.int 1) := hv
  refine ⟨n, _, h1, h2, h3, hpost _ _ _ _ _ _ ⟨Cond.after_iff.mpr rfl, Cond.after_iff.mpr (eq_i res_at (Term.int_eval (1)) rfl), trivial⟩ ⟨hq.1, hq.2.1, (hq.2.2.sift fun y hy => Or.inr (N y hy)).mono (by decide) (by decide)⟩⟩
theorem main_1_1 : Claimed_1_1 := comes_1 fun _ _ _ _ _ _ h hF => ⟨h.1, hF⟩
theorem main_1_2 : Claimed_1_2 := comes_1 fun _ _ _ _ _ _ h hF => ⟨h.2.1, hF⟩
end Jvm.Pilot.@@N@@
namespace Jvm.Pilot.@@N@@
open Jvm Jvm.ClassFile Sem Op Lib Jvm.Free Jvm.Stand Jvm.Pilot.@@N@@.Jvm.D
/-! MADE BY PROGRAM (witnessworld.py) out of the Statement's table words and the real class files: 17 classes; the members and pool entries that the words name. The judged class is class 1, her method 1. -/
namespace start1
open Jvm.ClassFile
def u (s : String) : CpInfo := .utf8 (stringToUtf16 s)
/-- a pool by its gaps: so many unusable entries, then the entry; so many at the end -/
def gap : Nat → List CpInfo → List CpInfo
  | 0, r => r
  | n + 1, r => .unusable :: gap n r
def poolList (es : List (Nat × CpInfo)) (last : Nat) : List CpInfo := es.foldr (fun e r => gap e.1 (e.2 :: r)) (gap last [])
def pool (es : List (Nat × CpInfo)) (last : Nat) : Array CpInfo := ⟨poolList es last⟩
def fileOf (pool : Array CpInfo) (this : Nat) (attrs : Array Attribute := #[]) (ms : Array MethodInfo := #[]) (fl : Nat := 33) (sup : Nat := 0) (ifs : Array Nat := #[]) (fds : Array FieldInfo := #[]) : ClassFile where
  minorVersion := 0
  majorVersion := 65
  constantPool := pool
  accessFlags := fl
  thisClass := this
  superClass := sup
  interfaces := ifs
  fields := fds
  methods := ms
  attributes := attrs
def plain (name : String) (sup : Option ClassId) : Class where
  name := name
  kind := .ordinary
  loader := none
  accessFlags := 33
  super := sup
  interfaces := #[]
  cf := none
  fields := #[]
  methods := #[]
  instanceTypes := #[]
  staticTypes := #[]
  resolved := #[]
  callSites := []
  init := .initialized
  statics := none
  mirror := none

def pool0 : Array CpInfo := pool [(5, u "<init>"), (0, u "()V"), (1, .class_ 10), (1, u "java/lang/Object")] 113

def k0c0 : Code := { maxStack := 0, maxLocals := 1, code := object_method_1_code, exceptionTable := #[], attributes := #[] }
def k0m0 : Method := { name := "<init>", desc := "()V", sig := { parameters := [], returnType := none }, accessFlags := 1, code := some k0c0 }
/-- java/lang/Object -/
def k0 : Class := { plain "java/lang/Object" none with
  accessFlags := 33
  interfaces := #[]
  cf := some (fileOf pool0 8 #[] #[{ accessFlags := 1, nameIndex := 5, descriptorIndex := 6, attributes := #[] }] 33 0 #[] #[])
  fields := #[]
  methods := #[k0m0]
  instanceTypes := #[]
  staticTypes := #[]
  resolved := Array.replicate 124 none
  statics := none }

def pool1 : Array CpInfo := pool [(2, .class_ 4), (1, u "java/lang/Object"), (0, u "<init>"), (0, u "()V"), (0, .class_ 8), (0, u "com/example/keelstore/keelstore/layout/ConsumeQueueEntry"), (0, .methodref 7 10), (0, .nameAndType 5 11), (0, u "(JIJ)V"), (0, .methodref 13 14), (0, .class_ 15), (0, .nameAndType 16 17), (0, u "java/lang/Long"), (0, u "valueOf"), (0, u "(J)Ljava/lang/Long;"), (0, .methodref 7 19), (0, .nameAndType 20 21), (0, u "equals"), (0, u "(Ljava/lang/Object;)Z"), (0, .methodref 7 23), (0, .nameAndType 24 25), (0, u "hashCode"), (0, u "()I"), (0, .class_ 27), (0, u "com/example/keelstore/keelstore/layout/ConsumeQueueEntryEqualsPinLaw"), (2, u "law"), (0, u "(JIJIJJ)Z")] 3

def k1m0 : Method := { name := "<init>", desc := "()V", sig := { parameters := [], returnType := none }, accessFlags := 1, code := none }
def k1c1 : Code := { maxStack := 7, maxLocals := 26, code := code, exceptionTable := #[], attributes := #[] }
def k1m1 : Method := { name := "law", desc := "(JIJIJJ)Z", sig := { parameters := [.long, .int, .long, .int, .long, .long], returnType := some .boolean }, accessFlags := 9, code := some k1c1 }
/-- com/example/keelstore/keelstore/layout/ConsumeQueueEntryEqualsPinLaw -/
def k1 : Class := { plain "com/example/keelstore/keelstore/layout/ConsumeQueueEntryEqualsPinLaw" (some 0) with
  accessFlags := 49
  interfaces := #[]
  cf := some (fileOf pool1 26 #[] #[{ accessFlags := 1, nameIndex := 5, descriptorIndex := 6, attributes := #[] }, { accessFlags := 9, nameIndex := 30, descriptorIndex := 31, attributes := #[] }] 49 2 #[] #[])
  fields := #[]
  methods := #[k1m0, k1m1]
  instanceTypes := #[]
  staticTypes := #[]
  resolved := Array.replicate 35 none
  statics := none }

def pool2 : Array CpInfo := pool [(1, .methodref 2 3), (0, .class_ 4), (0, .nameAndType 5 6), (0, u "java/lang/Object"), (0, u "<init>"), (0, u "()V"), (0, .class_ 8), (0, u "java/lang/Record")] 13

def k2c0 : Code := { maxStack := 1, maxLocals := 1, code := jdk_30_method_1_code, exceptionTable := #[], attributes := #[] }
def k2m0 : Method := { name := "<init>", desc := "()V", sig := { parameters := [], returnType := none }, accessFlags := 4, code := some k2c0 }
/-- java/lang/Record -/
def k2 : Class := { plain "java/lang/Record" (some 0) with
  accessFlags := 1057
  interfaces := #[]
  cf := some (fileOf pool2 7 #[] #[{ accessFlags := 4, nameIndex := 5, descriptorIndex := 6, attributes := #[] }] 1057 2 #[] #[])
  fields := #[]
  methods := #[k2m0]
  instanceTypes := #[]
  staticTypes := #[]
  resolved := Array.replicate 22 none
  statics := none }

def pool3 : Array CpInfo := pool [(1, .methodref 2 3), (0, .class_ 4), (0, .nameAndType 5 6), (0, u "java/lang/Record"), (0, u "<init>"), (0, u "()V"), (0, .fieldref 8 9), (0, .class_ 10), (0, .nameAndType 11 12), (0, u "com/example/keelstore/keelstore/layout/ConsumeQueueEntry"), (0, u "physicalOffset"), (0, u "J"), (0, .fieldref 8 14), (0, .nameAndType 15 16), (0, u "size"), (0, u "I"), (0, .fieldref 8 18), (0, .nameAndType 19 12), (0, u "tagHash"), (4, u "hashCode"), (0, u "()I"), (12, u "(JIJ)V"), (8, .methodref 48 49), (0, .class_ 50), (0, .nameAndType 24 51), (0, u "java/lang/Long"), (0, u "(J)I"), (6, u "NONE"), (0, u "Lcom/example/keelstore/keelstore/layout/ConsumeQueueEntry;"), (0, u "SIZE"), (2, u "PHYSICAL_OFFSET"), (1, u "RECORD_SIZE"), (1, u "TAG_HASH"), (12, u "equals"), (0, u "(Ljava/lang/Object;)Z")] 25

def k3c0 : Code := { maxStack := 3, maxLocals := 6, code := prog_24_method_1_code, exceptionTable := #[], attributes := #[] }
def k3m0 : Method := { name := "<init>", desc := "(JIJ)V", sig := { parameters := [.long, .int, .long], returnType := none }, accessFlags := 1, code := some k3c0 }
def k3c1 : Code := { maxStack := 4, maxLocals := 3, code := prog_24_method_6_code, exceptionTable := #[], attributes := #[] }
def k3m1 : Method := { name := "equals", desc := "(Ljava/lang/Object;)Z", sig := { parameters := [(.object "java/lang/Object")], returnType := some .boolean }, accessFlags := 1, code := some k3c1 }
def k3c2 : Code := { maxStack := 3, maxLocals := 1, code := prog_24_method_7_code, exceptionTable := #[], attributes := #[] }
def k3m2 : Method := { name := "hashCode", desc := "()I", sig := { parameters := [], returnType := some .int }, accessFlags := 1, code := some k3c2 }
/-- com/example/keelstore/keelstore/layout/ConsumeQueueEntry -/
def k3 : Class := { plain "com/example/keelstore/keelstore/layout/ConsumeQueueEntry" (some 2) with
  accessFlags := 49
  interfaces := #[]
  cf := some (fileOf pool3 8 #[] #[{ accessFlags := 1, nameIndex := 5, descriptorIndex := 38, attributes := #[] }, { accessFlags := 1, nameIndex := 80, descriptorIndex := 81, attributes := #[] }, { accessFlags := 1, nameIndex := 24, descriptorIndex := 25, attributes := #[] }] 49 2 #[] #[{ accessFlags := 18, nameIndex := 11, descriptorIndex := 12, attributes := #[] }, { accessFlags := 18, nameIndex := 15, descriptorIndex := 16, attributes := #[] }, { accessFlags := 18, nameIndex := 19, descriptorIndex := 12, attributes := #[] }, { accessFlags := 25, nameIndex := 60, descriptorIndex := 16, attributes := #[] }, { accessFlags := 25, nameIndex := 58, descriptorIndex := 59, attributes := #[] }, { accessFlags := 26, nameIndex := 63, descriptorIndex := 16, attributes := #[] }, { accessFlags := 26, nameIndex := 65, descriptorIndex := 16, attributes := #[] }, { accessFlags := 26, nameIndex := 67, descriptorIndex := 16, attributes := #[] }])
  fields := #[{ name := "physicalOffset", type := .long, accessFlags := 18, slot := 0, constantValue := 0 }, { name := "size", type := .int, accessFlags := 18, slot := 1, constantValue := 0 }, { name := "tagHash", type := .long, accessFlags := 18, slot := 2, constantValue := 0 }, { name := "SIZE", type := .int, accessFlags := 25, slot := 0, constantValue := 0 }, { name := "NONE", type := (.object "com/example/keelstore/keelstore/layout/ConsumeQueueEntry"), accessFlags := 25, slot := 1, constantValue := 0 }, { name := "PHYSICAL_OFFSET", type := .int, accessFlags := 26, slot := 2, constantValue := 0 }, { name := "RECORD_SIZE", type := .int, accessFlags := 26, slot := 3, constantValue := 0 }, { name := "TAG_HASH", type := .int, accessFlags := 26, slot := 4, constantValue := 0 }]
  methods := #[k3m0, k3m1, k3m2]
  instanceTypes := #[.long, .int, .long]
  staticTypes := #[.int, (.object "com/example/keelstore/keelstore/layout/ConsumeQueueEntry"), .int, .int, .int]
  resolved := Array.replicate 107 none
  statics := none }

def pool4 : Array CpInfo := pool [(1, .class_ 2), (0, u "java/io/Serializable"), (0, .class_ 4), (0, u "java/lang/Object")] 2

/-- java/io/Serializable -/
def k4 : Class := { plain "java/io/Serializable" (some 0) with
  accessFlags := 1537
  interfaces := #[]
  cf := some (fileOf pool4 1 #[] #[] 1537 3 #[] #[])
  fields := #[]
  methods := #[]
  instanceTypes := #[]
  staticTypes := #[]
  resolved := Array.replicate 7 none
  statics := none }

def pool5 : Array CpInfo := pool [(1, .methodref 2 3), (0, .class_ 4), (0, .nameAndType 5 6), (0, u "java/lang/Object"), (0, u "<init>"), (0, u "()V"), (1, .class_ 10), (1, u "java/lang/Number"), (2, .class_ 14), (0, u "java/io/Serializable"), (0, u "serialVersionUID"), (0, u "J")] 20

def k5c0 : Code := { maxStack := 1, maxLocals := 1, code := jdk_18_method_1_code, exceptionTable := #[], attributes := #[] }
def k5m0 : Method := { name := "<init>", desc := "()V", sig := { parameters := [], returnType := none }, accessFlags := 1, code := some k5c0 }
/-- java/lang/Number -/
def k5 : Class := { plain "java/lang/Number" (some 0) with
  accessFlags := 1057
  interfaces := #[4]
  cf := some (fileOf pool5 8 #[] #[{ accessFlags := 1, nameIndex := 5, descriptorIndex := 6, attributes := #[] }] 1057 2 #[13] #[{ accessFlags := 26, nameIndex := 15, descriptorIndex := 16, attributes := #[] }])
  fields := #[{ name := "serialVersionUID", type := .long, accessFlags := 26, slot := 0, constantValue := 0 }]
  methods := #[k5m0]
  instanceTypes := #[]
  staticTypes := #[.long]
  resolved := Array.replicate 37 none
  statics := none }

def pool6 : Array CpInfo := pool [(1, .class_ 2), (0, u "java/lang/Comparable"), (0, .class_ 4), (0, u "java/lang/Object")] 7

/-- java/lang/Comparable -/
def k6 : Class := { plain "java/lang/Comparable" (some 0) with
  accessFlags := 1537
  interfaces := #[]
  cf := some (fileOf pool6 1 #[] #[] 1537 3 #[] #[])
  fields := #[]
  methods := #[]
  instanceTypes := #[]
  staticTypes := #[]
  resolved := Array.replicate 12 none
  statics := none }

def pool7 : Array CpInfo := pool [(1, .class_ 2), (0, u "java/lang/constant/Constable"), (0, .class_ 4), (0, u "java/lang/Object")] 6

/-- java/lang/constant/Constable -/
def k7 : Class := { plain "java/lang/constant/Constable" (some 0) with
  accessFlags := 1537
  interfaces := #[]
  cf := some (fileOf pool7 1 #[] #[] 1537 3 #[] #[])
  fields := #[]
  methods := #[]
  instanceTypes := #[]
  staticTypes := #[]
  resolved := Array.replicate 11 none
  statics := none }

def pool8 : Array CpInfo := pool [(1, .class_ 2), (0, u "java/lang/constant/ConstantDesc"), (0, .class_ 4), (0, u "java/lang/Object")] 32

/-- java/lang/constant/ConstantDesc -/
def k8 : Class := { plain "java/lang/constant/ConstantDesc" (some 0) with
  accessFlags := 1537
  interfaces := #[]
  cf := some (fileOf pool8 1 #[] #[] 1537 3 #[] #[])
  fields := #[]
  methods := #[]
  instanceTypes := #[]
  staticTypes := #[]
  resolved := Array.replicate 37 none
  statics := none }

def pool9 : Array CpInfo := pool [(1, .class_ 2), (0, u "java/lang/Long"), (55, .nameAndType 59 60), (0, u "<init>"), (0, u "()V"), (24, u "valueOf"), (15, u "(J)I"), (127, u "(J)Ljava/lang/Long;"), (0, .long 18446744073709551488), (1, .long 127), (1, .fieldref 235 236), (0, .class_ 237), (0, .nameAndType 238 239), (0, u "java/lang/Long$LongCache"), (0, u "cache"), (0, u "[Ljava/lang/Long;"), (0, .methodref 1 241), (0, .nameAndType 59 242), (0, u "(J)V"), (27, .methodref 271 58), (0, .class_ 272), (0, u "java/lang/Number"), (0, .fieldref 1 274), (0, .nameAndType 275 276), (0, u "value"), (0, u "J"), (2, u "hashCode"), (81, u "TYPE"), (0, u "Ljava/lang/Class;"), (0, .class_ 364), (0, u "java/lang/Comparable"), (0, .class_ 366), (0, u "java/lang/constant/Constable"), (0, .class_ 368), (0, u "java/lang/constant/ConstantDesc"), (0, u "MIN_VALUE"), (1, u "MAX_VALUE"), (4, u "SIZE"), (0, u "I"), (1, u "BYTES"), (1, u "serialVersionUID")] 142

def k9c0 : Code := { maxStack := 4, maxLocals := 3, code := jdk_35_method_24_code, exceptionTable := #[], attributes := #[] }
def k9m0 : Method := { name := "valueOf", desc := "(J)Ljava/lang/Long;", sig := { parameters := [.long], returnType := some (.object "java/lang/Long") }, accessFlags := 9, code := some k9c0 }
def k9c1 : Code := { maxStack := 3, maxLocals := 3, code := jdk_35_method_26_code, exceptionTable := #[], attributes := #[] }
def k9m1 : Method := { name := "<init>", desc := "(J)V", sig := { parameters := [.long], returnType := none }, accessFlags := 1, code := some k9c1 }
def k9c2 : Code := { maxStack := 5, maxLocals := 2, code := jdk_35_method_36_code, exceptionTable := #[], attributes := #[] }
def k9m2 : Method := { name := "hashCode", desc := "(J)I", sig := { parameters := [.long], returnType := some .int }, accessFlags := 9, code := some k9c2 }
/-- java/lang/Long -/
def k9 : Class := { plain "java/lang/Long" (some 5) with
  accessFlags := 49
  interfaces := #[6, 7, 8]
  cf := some (fileOf pool9 1 #[.nestMembers #[235]] #[{ accessFlags := 9, nameIndex := 85, descriptorIndex := 229, attributes := #[] }, { accessFlags := 1, nameIndex := 59, descriptorIndex := 242, attributes := #[] }, { accessFlags := 9, nameIndex := 279, descriptorIndex := 101, attributes := #[] }] 49 271 #[363, 365, 367] #[{ accessFlags := 25, nameIndex := 369, descriptorIndex := 276, attributes := #[] }, { accessFlags := 25, nameIndex := 371, descriptorIndex := 276, attributes := #[] }, { accessFlags := 25, nameIndex := 361, descriptorIndex := 362, attributes := #[] }, { accessFlags := 18, nameIndex := 275, descriptorIndex := 276, attributes := #[] }, { accessFlags := 25, nameIndex := 376, descriptorIndex := 377, attributes := #[] }, { accessFlags := 25, nameIndex := 379, descriptorIndex := 377, attributes := #[] }, { accessFlags := 26, nameIndex := 381, descriptorIndex := 276, attributes := #[] }])
  fields := #[{ name := "MIN_VALUE", type := .long, accessFlags := 25, slot := 0, constantValue := 0 }, { name := "MAX_VALUE", type := .long, accessFlags := 25, slot := 1, constantValue := 0 }, { name := "TYPE", type := (.object "java/lang/Class"), accessFlags := 25, slot := 2, constantValue := 0 }, { name := "value", type := .long, accessFlags := 18, slot := 0, constantValue := 0 }, { name := "SIZE", type := .int, accessFlags := 25, slot := 3, constantValue := 0 }, { name := "BYTES", type := .int, accessFlags := 25, slot := 4, constantValue := 0 }, { name := "serialVersionUID", type := .long, accessFlags := 26, slot := 5, constantValue := 0 }]
  methods := #[k9m0, k9m1, k9m2]
  instanceTypes := #[.long]
  staticTypes := #[.long, .long, (.object "java/lang/Class"), .int, .int, .long]
  resolved := Array.replicate 524 none
  statics := none }

def pool10 : Array CpInfo := pool [(2, .class_ 4), (1, u "java/lang/Object"), (0, u "<init>"), (0, u "()V"), (0, .class_ 8), (0, u "java/lang/Long"), (7, .class_ 18), (1, u "java/lang/Long$LongCache"), (0, u "$assertionsDisabled"), (0, u "Z"), (8, u "archivedCache"), (0, u "[Ljava/lang/Long;"), (7, u "cache")] 24

def k10m0 : Method := { name := "<init>", desc := "()V", sig := { parameters := [], returnType := none }, accessFlags := 2, code := none }
/-- java/lang/Long$LongCache -/
def k10 : Class := { plain "java/lang/Long$LongCache" (some 0) with
  accessFlags := 48
  interfaces := #[]
  cf := some (fileOf pool10 16 #[.nestHost 7] #[{ accessFlags := 2, nameIndex := 5, descriptorIndex := 6, attributes := #[] }] 48 2 #[] #[{ accessFlags := 24, nameIndex := 38, descriptorIndex := 30, attributes := #[] }, { accessFlags := 8, nameIndex := 29, descriptorIndex := 30, attributes := #[] }, { accessFlags := 4120, nameIndex := 19, descriptorIndex := 20, attributes := #[] }])
  fields := #[{ name := "cache", type := (.array (.object "java/lang/Long")), accessFlags := 24, slot := 0, constantValue := 0 }, { name := "archivedCache", type := (.array (.object "java/lang/Long")), accessFlags := 8, slot := 1, constantValue := 0 }, { name := "$assertionsDisabled", type := .boolean, accessFlags := 4120, slot := 2, constantValue := 0 }]
  methods := #[k10m0]
  instanceTypes := #[]
  staticTypes := #[(.array (.object "java/lang/Long")), (.array (.object "java/lang/Long")), .boolean]
  resolved := Array.replicate 63 none
  statics := some 0 }

def pool11 : Array CpInfo := pool [(1, u "java/lang/Cloneable"), (0, .class_ 1), (0, u "java/lang/Object"), (0, .class_ 3)] 3

/-- java/lang/Cloneable -/
def k11 : Class := { plain "java/lang/Cloneable" (some 0) with
  accessFlags := 1537
  interfaces := #[]
  cf := some (fileOf pool11 2 #[] #[] 1537 4 #[] #[])
  fields := #[]
  methods := #[]
  instanceTypes := #[]
  staticTypes := #[]
  resolved := Array.replicate 8 none
  statics := none }

/-- the primitive byte -/
def k12 : Class := { plain "byte" none with kind := .primitive 'B', accessFlags := 0x411 }
/-- [B -/
def k13 : Class := { plain "[B" (some 0) with kind := .array 12 .byte, interfaces := #[11, 4], accessFlags := 1041 }

/-- the primitive int -/
def k14 : Class := { plain "int" none with kind := .primitive 'I', accessFlags := 0x411 }
/-- [I -/
def k15 : Class := { plain "[I" (some 0) with kind := .array 14 .int, interfaces := #[11, 4], accessFlags := 1041 }

/-- [Ljava/lang/Long; -/
def k16 : Class := { plain "[Ljava/lang/Long;" (some 0) with kind := .array 9 (.object "java/lang/Long"), interfaces := #[11, 4], accessFlags := 1041 }

def heap : Heap := #[{ cls := 10, slots := #[.ref 1, .null, .int 0], vm := .statics 10 },
  { cls := 16, slots := #[.ref 2, .ref 3, .ref 4, .ref 5, .ref 6, .ref 7, .ref 8, .ref 9, .ref 10, .ref 11, .ref 12, .ref 13, .ref 14, .ref 15, .ref 16, .ref 17, .ref 18, .ref 19, .ref 20, .ref 21, .ref 22, .ref 23, .ref 24, .ref 25, .ref 26, .ref 27, .ref 28, .ref 29, .ref 30, .ref 31, .ref 32, .ref 33, .ref 34, .ref 35, .ref 36, .ref 37, .ref 38, .ref 39, .ref 40, .ref 41, .ref 42, .ref 43, .ref 44, .ref 45, .ref 46, .ref 47, .ref 48, .ref 49, .ref 50, .ref 51, .ref 52, .ref 53, .ref 54, .ref 55, .ref 56, .ref 57, .ref 58, .ref 59, .ref 60, .ref 61, .ref 62, .ref 63, .ref 64, .ref 65, .ref 66, .ref 67, .ref 68, .ref 69, .ref 70, .ref 71, .ref 72, .ref 73, .ref 74, .ref 75, .ref 76, .ref 77, .ref 78, .ref 79, .ref 80, .ref 81, .ref 82, .ref 83, .ref 84, .ref 85, .ref 86, .ref 87, .ref 88, .ref 89, .ref 90, .ref 91, .ref 92, .ref 93, .ref 94, .ref 95, .ref 96, .ref 97, .ref 98, .ref 99, .ref 100, .ref 101, .ref 102, .ref 103, .ref 104, .ref 105, .ref 106, .ref 107, .ref 108, .ref 109, .ref 110, .ref 111, .ref 112, .ref 113, .ref 114, .ref 115, .ref 116, .ref 117, .ref 118, .ref 119, .ref 120, .ref 121, .ref 122, .ref 123, .ref 124, .ref 125, .ref 126, .ref 127, .ref 128, .ref 129, .ref 130, .ref 131, .ref 132, .ref 133, .ref 134, .ref 135, .ref 136, .ref 137, .ref 138, .ref 139, .ref 140, .ref 141, .ref 142, .ref 143, .ref 144, .ref 145, .ref 146, .ref 147, .ref 148, .ref 149, .ref 150, .ref 151, .ref 152, .ref 153, .ref 154, .ref 155, .ref 156, .ref 157, .ref 158, .ref 159, .ref 160, .ref 161, .ref 162, .ref 163, .ref 164, .ref 165, .ref 166, .ref 167, .ref 168, .ref 169, .ref 170, .ref 171, .ref 172, .ref 173, .ref 174, .ref 175, .ref 176, .ref 177, .ref 178, .ref 179, .ref 180, .ref 181, .ref 182, .ref 183, .ref 184, .ref 185, .ref 186, .ref 187, .ref 188, .ref 189, .ref 190, .ref 191, .ref 192, .ref 193, .ref 194, .ref 195, .ref 196, .ref 197, .ref 198, .ref 199, .ref 200, .ref 201, .ref 202, .ref 203, .ref 204, .ref 205, .ref 206, .ref 207, .ref 208, .ref 209, .ref 210, .ref 211, .ref 212, .ref 213, .ref 214, .ref 215, .ref 216, .ref 217, .ref 218, .ref 219, .ref 220, .ref 221, .ref 222, .ref 223, .ref 224, .ref 225, .ref 226, .ref 227, .ref 228, .ref 229, .ref 230, .ref 231, .ref 232, .ref 233, .ref 234, .ref 235, .ref 236, .ref 237, .ref 238, .ref 239, .ref 240, .ref 241, .ref 242, .ref 243, .ref 244, .ref 245, .ref 246, .ref 247, .ref 248, .ref 249, .ref 250, .ref 251, .ref 252, .ref 253, .ref 254, .ref 255, .ref 256, .ref 257], vm := .none },
  { cls := 9, slots := #[.long (-128)], vm := .none },
  { cls := 9, slots := #[.long (-127)], vm := .none },
  { cls := 9, slots := #[.long (-126)], vm := .none },
  { cls := 9, slots := #[.long (-125)], vm := .none },
  { cls := 9, slots := #[.long (-124)], vm := .none },
  { cls := 9, slots := #[.long (-123)], vm := .none },
  { cls := 9, slots := #[.long (-122)], vm := .none },
  { cls := 9, slots := #[.long (-121)], vm := .none },
  { cls := 9, slots := #[.long (-120)], vm := .none },
  { cls := 9, slots := #[.long (-119)], vm := .none },
  { cls := 9, slots := #[.long (-118)], vm := .none },
  { cls := 9, slots := #[.long (-117)], vm := .none },
  { cls := 9, slots := #[.long (-116)], vm := .none },
  { cls := 9, slots := #[.long (-115)], vm := .none },
  { cls := 9, slots := #[.long (-114)], vm := .none },
  { cls := 9, slots := #[.long (-113)], vm := .none },
  { cls := 9, slots := #[.long (-112)], vm := .none },
  { cls := 9, slots := #[.long (-111)], vm := .none },
  { cls := 9, slots := #[.long (-110)], vm := .none },
  { cls := 9, slots := #[.long (-109)], vm := .none },
  { cls := 9, slots := #[.long (-108)], vm := .none },
  { cls := 9, slots := #[.long (-107)], vm := .none },
  { cls := 9, slots := #[.long (-106)], vm := .none },
  { cls := 9, slots := #[.long (-105)], vm := .none },
  { cls := 9, slots := #[.long (-104)], vm := .none },
  { cls := 9, slots := #[.long (-103)], vm := .none },
  { cls := 9, slots := #[.long (-102)], vm := .none },
  { cls := 9, slots := #[.long (-101)], vm := .none },
  { cls := 9, slots := #[.long (-100)], vm := .none },
  { cls := 9, slots := #[.long (-99)], vm := .none },
  { cls := 9, slots := #[.long (-98)], vm := .none },
  { cls := 9, slots := #[.long (-97)], vm := .none },
  { cls := 9, slots := #[.long (-96)], vm := .none },
  { cls := 9, slots := #[.long (-95)], vm := .none },
  { cls := 9, slots := #[.long (-94)], vm := .none },
  { cls := 9, slots := #[.long (-93)], vm := .none },
  { cls := 9, slots := #[.long (-92)], vm := .none },
  { cls := 9, slots := #[.long (-91)], vm := .none },
  { cls := 9, slots := #[.long (-90)], vm := .none },
  { cls := 9, slots := #[.long (-89)], vm := .none },
  { cls := 9, slots := #[.long (-88)], vm := .none },
  { cls := 9, slots := #[.long (-87)], vm := .none },
  { cls := 9, slots := #[.long (-86)], vm := .none },
  { cls := 9, slots := #[.long (-85)], vm := .none },
  { cls := 9, slots := #[.long (-84)], vm := .none },
  { cls := 9, slots := #[.long (-83)], vm := .none },
  { cls := 9, slots := #[.long (-82)], vm := .none },
  { cls := 9, slots := #[.long (-81)], vm := .none },
  { cls := 9, slots := #[.long (-80)], vm := .none },
  { cls := 9, slots := #[.long (-79)], vm := .none },
  { cls := 9, slots := #[.long (-78)], vm := .none },
  { cls := 9, slots := #[.long (-77)], vm := .none },
  { cls := 9, slots := #[.long (-76)], vm := .none },
  { cls := 9, slots := #[.long (-75)], vm := .none },
  { cls := 9, slots := #[.long (-74)], vm := .none },
  { cls := 9, slots := #[.long (-73)], vm := .none },
  { cls := 9, slots := #[.long (-72)], vm := .none },
  { cls := 9, slots := #[.long (-71)], vm := .none },
  { cls := 9, slots := #[.long (-70)], vm := .none },
  { cls := 9, slots := #[.long (-69)], vm := .none },
  { cls := 9, slots := #[.long (-68)], vm := .none },
  { cls := 9, slots := #[.long (-67)], vm := .none },
  { cls := 9, slots := #[.long (-66)], vm := .none },
  { cls := 9, slots := #[.long (-65)], vm := .none },
  { cls := 9, slots := #[.long (-64)], vm := .none },
  { cls := 9, slots := #[.long (-63)], vm := .none },
  { cls := 9, slots := #[.long (-62)], vm := .none },
  { cls := 9, slots := #[.long (-61)], vm := .none },
  { cls := 9, slots := #[.long (-60)], vm := .none },
  { cls := 9, slots := #[.long (-59)], vm := .none },
  { cls := 9, slots := #[.long (-58)], vm := .none },
  { cls := 9, slots := #[.long (-57)], vm := .none },
  { cls := 9, slots := #[.long (-56)], vm := .none },
  { cls := 9, slots := #[.long (-55)], vm := .none },
  { cls := 9, slots := #[.long (-54)], vm := .none },
  { cls := 9, slots := #[.long (-53)], vm := .none },
  { cls := 9, slots := #[.long (-52)], vm := .none },
  { cls := 9, slots := #[.long (-51)], vm := .none },
  { cls := 9, slots := #[.long (-50)], vm := .none },
  { cls := 9, slots := #[.long (-49)], vm := .none },
  { cls := 9, slots := #[.long (-48)], vm := .none },
  { cls := 9, slots := #[.long (-47)], vm := .none },
  { cls := 9, slots := #[.long (-46)], vm := .none },
  { cls := 9, slots := #[.long (-45)], vm := .none },
  { cls := 9, slots := #[.long (-44)], vm := .none },
  { cls := 9, slots := #[.long (-43)], vm := .none },
  { cls := 9, slots := #[.long (-42)], vm := .none },
  { cls := 9, slots := #[.long (-41)], vm := .none },
  { cls := 9, slots := #[.long (-40)], vm := .none },
  { cls := 9, slots := #[.long (-39)], vm := .none },
  { cls := 9, slots := #[.long (-38)], vm := .none },
  { cls := 9, slots := #[.long (-37)], vm := .none },
  { cls := 9, slots := #[.long (-36)], vm := .none },
  { cls := 9, slots := #[.long (-35)], vm := .none },
  { cls := 9, slots := #[.long (-34)], vm := .none },
  { cls := 9, slots := #[.long (-33)], vm := .none },
  { cls := 9, slots := #[.long (-32)], vm := .none },
  { cls := 9, slots := #[.long (-31)], vm := .none },
  { cls := 9, slots := #[.long (-30)], vm := .none },
  { cls := 9, slots := #[.long (-29)], vm := .none },
  { cls := 9, slots := #[.long (-28)], vm := .none },
  { cls := 9, slots := #[.long (-27)], vm := .none },
  { cls := 9, slots := #[.long (-26)], vm := .none },
  { cls := 9, slots := #[.long (-25)], vm := .none },
  { cls := 9, slots := #[.long (-24)], vm := .none },
  { cls := 9, slots := #[.long (-23)], vm := .none },
  { cls := 9, slots := #[.long (-22)], vm := .none },
  { cls := 9, slots := #[.long (-21)], vm := .none },
  { cls := 9, slots := #[.long (-20)], vm := .none },
  { cls := 9, slots := #[.long (-19)], vm := .none },
  { cls := 9, slots := #[.long (-18)], vm := .none },
  { cls := 9, slots := #[.long (-17)], vm := .none },
  { cls := 9, slots := #[.long (-16)], vm := .none },
  { cls := 9, slots := #[.long (-15)], vm := .none },
  { cls := 9, slots := #[.long (-14)], vm := .none },
  { cls := 9, slots := #[.long (-13)], vm := .none },
  { cls := 9, slots := #[.long (-12)], vm := .none },
  { cls := 9, slots := #[.long (-11)], vm := .none },
  { cls := 9, slots := #[.long (-10)], vm := .none },
  { cls := 9, slots := #[.long (-9)], vm := .none },
  { cls := 9, slots := #[.long (-8)], vm := .none },
  { cls := 9, slots := #[.long (-7)], vm := .none },
  { cls := 9, slots := #[.long (-6)], vm := .none },
  { cls := 9, slots := #[.long (-5)], vm := .none },
  { cls := 9, slots := #[.long (-4)], vm := .none },
  { cls := 9, slots := #[.long (-3)], vm := .none },
  { cls := 9, slots := #[.long (-2)], vm := .none },
  { cls := 9, slots := #[.long (-1)], vm := .none },
  { cls := 9, slots := #[.long (0)], vm := .none },
  { cls := 9, slots := #[.long (1)], vm := .none },
  { cls := 9, slots := #[.long (2)], vm := .none },
  { cls := 9, slots := #[.long (3)], vm := .none },
  { cls := 9, slots := #[.long (4)], vm := .none },
  { cls := 9, slots := #[.long (5)], vm := .none },
  { cls := 9, slots := #[.long (6)], vm := .none },
  { cls := 9, slots := #[.long (7)], vm := .none },
  { cls := 9, slots := #[.long (8)], vm := .none },
  { cls := 9, slots := #[.long (9)], vm := .none },
  { cls := 9, slots := #[.long (10)], vm := .none },
  { cls := 9, slots := #[.long (11)], vm := .none },
  { cls := 9, slots := #[.long (12)], vm := .none },
  { cls := 9, slots := #[.long (13)], vm := .none },
  { cls := 9, slots := #[.long (14)], vm := .none },
  { cls := 9, slots := #[.long (15)], vm := .none },
  { cls := 9, slots := #[.long (16)], vm := .none },
  { cls := 9, slots := #[.long (17)], vm := .none },
  { cls := 9, slots := #[.long (18)], vm := .none },
  { cls := 9, slots := #[.long (19)], vm := .none },
  { cls := 9, slots := #[.long (20)], vm := .none },
  { cls := 9, slots := #[.long (21)], vm := .none },
  { cls := 9, slots := #[.long (22)], vm := .none },
  { cls := 9, slots := #[.long (23)], vm := .none },
  { cls := 9, slots := #[.long (24)], vm := .none },
  { cls := 9, slots := #[.long (25)], vm := .none },
  { cls := 9, slots := #[.long (26)], vm := .none },
  { cls := 9, slots := #[.long (27)], vm := .none },
  { cls := 9, slots := #[.long (28)], vm := .none },
  { cls := 9, slots := #[.long (29)], vm := .none },
  { cls := 9, slots := #[.long (30)], vm := .none },
  { cls := 9, slots := #[.long (31)], vm := .none },
  { cls := 9, slots := #[.long (32)], vm := .none },
  { cls := 9, slots := #[.long (33)], vm := .none },
  { cls := 9, slots := #[.long (34)], vm := .none },
  { cls := 9, slots := #[.long (35)], vm := .none },
  { cls := 9, slots := #[.long (36)], vm := .none },
  { cls := 9, slots := #[.long (37)], vm := .none },
  { cls := 9, slots := #[.long (38)], vm := .none },
  { cls := 9, slots := #[.long (39)], vm := .none },
  { cls := 9, slots := #[.long (40)], vm := .none },
  { cls := 9, slots := #[.long (41)], vm := .none },
  { cls := 9, slots := #[.long (42)], vm := .none },
  { cls := 9, slots := #[.long (43)], vm := .none },
  { cls := 9, slots := #[.long (44)], vm := .none },
  { cls := 9, slots := #[.long (45)], vm := .none },
  { cls := 9, slots := #[.long (46)], vm := .none },
  { cls := 9, slots := #[.long (47)], vm := .none },
  { cls := 9, slots := #[.long (48)], vm := .none },
  { cls := 9, slots := #[.long (49)], vm := .none },
  { cls := 9, slots := #[.long (50)], vm := .none },
  { cls := 9, slots := #[.long (51)], vm := .none },
  { cls := 9, slots := #[.long (52)], vm := .none },
  { cls := 9, slots := #[.long (53)], vm := .none },
  { cls := 9, slots := #[.long (54)], vm := .none },
  { cls := 9, slots := #[.long (55)], vm := .none },
  { cls := 9, slots := #[.long (56)], vm := .none },
  { cls := 9, slots := #[.long (57)], vm := .none },
  { cls := 9, slots := #[.long (58)], vm := .none },
  { cls := 9, slots := #[.long (59)], vm := .none },
  { cls := 9, slots := #[.long (60)], vm := .none },
  { cls := 9, slots := #[.long (61)], vm := .none },
  { cls := 9, slots := #[.long (62)], vm := .none },
  { cls := 9, slots := #[.long (63)], vm := .none },
  { cls := 9, slots := #[.long (64)], vm := .none },
  { cls := 9, slots := #[.long (65)], vm := .none },
  { cls := 9, slots := #[.long (66)], vm := .none },
  { cls := 9, slots := #[.long (67)], vm := .none },
  { cls := 9, slots := #[.long (68)], vm := .none },
  { cls := 9, slots := #[.long (69)], vm := .none },
  { cls := 9, slots := #[.long (70)], vm := .none },
  { cls := 9, slots := #[.long (71)], vm := .none },
  { cls := 9, slots := #[.long (72)], vm := .none },
  { cls := 9, slots := #[.long (73)], vm := .none },
  { cls := 9, slots := #[.long (74)], vm := .none },
  { cls := 9, slots := #[.long (75)], vm := .none },
  { cls := 9, slots := #[.long (76)], vm := .none },
  { cls := 9, slots := #[.long (77)], vm := .none },
  { cls := 9, slots := #[.long (78)], vm := .none },
  { cls := 9, slots := #[.long (79)], vm := .none },
  { cls := 9, slots := #[.long (80)], vm := .none },
  { cls := 9, slots := #[.long (81)], vm := .none },
  { cls := 9, slots := #[.long (82)], vm := .none },
  { cls := 9, slots := #[.long (83)], vm := .none },
  { cls := 9, slots := #[.long (84)], vm := .none },
  { cls := 9, slots := #[.long (85)], vm := .none },
  { cls := 9, slots := #[.long (86)], vm := .none },
  { cls := 9, slots := #[.long (87)], vm := .none },
  { cls := 9, slots := #[.long (88)], vm := .none },
  { cls := 9, slots := #[.long (89)], vm := .none },
  { cls := 9, slots := #[.long (90)], vm := .none },
  { cls := 9, slots := #[.long (91)], vm := .none },
  { cls := 9, slots := #[.long (92)], vm := .none },
  { cls := 9, slots := #[.long (93)], vm := .none },
  { cls := 9, slots := #[.long (94)], vm := .none },
  { cls := 9, slots := #[.long (95)], vm := .none },
  { cls := 9, slots := #[.long (96)], vm := .none },
  { cls := 9, slots := #[.long (97)], vm := .none },
  { cls := 9, slots := #[.long (98)], vm := .none },
  { cls := 9, slots := #[.long (99)], vm := .none },
  { cls := 9, slots := #[.long (100)], vm := .none },
  { cls := 9, slots := #[.long (101)], vm := .none },
  { cls := 9, slots := #[.long (102)], vm := .none },
  { cls := 9, slots := #[.long (103)], vm := .none },
  { cls := 9, slots := #[.long (104)], vm := .none },
  { cls := 9, slots := #[.long (105)], vm := .none },
  { cls := 9, slots := #[.long (106)], vm := .none },
  { cls := 9, slots := #[.long (107)], vm := .none },
  { cls := 9, slots := #[.long (108)], vm := .none },
  { cls := 9, slots := #[.long (109)], vm := .none },
  { cls := 9, slots := #[.long (110)], vm := .none },
  { cls := 9, slots := #[.long (111)], vm := .none },
  { cls := 9, slots := #[.long (112)], vm := .none },
  { cls := 9, slots := #[.long (113)], vm := .none },
  { cls := 9, slots := #[.long (114)], vm := .none },
  { cls := 9, slots := #[.long (115)], vm := .none },
  { cls := 9, slots := #[.long (116)], vm := .none },
  { cls := 9, slots := #[.long (117)], vm := .none },
  { cls := 9, slots := #[.long (118)], vm := .none },
  { cls := 9, slots := #[.long (119)], vm := .none },
  { cls := 9, slots := #[.long (120)], vm := .none },
  { cls := 9, slots := #[.long (121)], vm := .none },
  { cls := 9, slots := #[.long (122)], vm := .none },
  { cls := 9, slots := #[.long (123)], vm := .none },
  { cls := 9, slots := #[.long (124)], vm := .none },
  { cls := 9, slots := #[.long (125)], vm := .none },
  { cls := 9, slots := #[.long (126)], vm := .none },
  { cls := 9, slots := #[.long (127)], vm := .none }]
def classes : Array Class := #[k0, k1, k2, k3, k4, k5, k6, k7, k8, k9, k10, k11, k12, k13, k14, k15, k16]
def interned : List (Array UInt16 × Addr) := []
def slotsUsed : Nat := 515
def theMethod : MethodId := ⟨1, 1⟩
def args0 : Array Value := #[.long 5, .int 1, .long 1, .int 1, .long 1, .long 1]
def aboutOver (below : List Frame) : State where
  vm := { classes := classes, interned := interned.toArray }
  heap := heap
  slotsUsed := slotsUsed
  threads := #[{ frames := .invoking theMethod args0 :: below }]
def below0 : List Frame := [.native { method := ⟨0, 0⟩, args := #[] }]
def about1 : State := aboutOver below0
def p0 : Program := .bare "" "" ""
def e0 : Env := launch0.env 0 0 0
theorem w_frames : about1.frames = Frame.invoking theMethod args0 :: below0 := rfl
set_option maxRecDepth 65536 in
theorem w_args : argsFit about1.vm theMethod args0 = true := by decide +kernel
set_option maxRecDepth 65536 in
theorem w_heap : heapFits about1 = true := by decide +kernel
set_option maxRecDepth 65536 in
theorem w_runnable : about1.curStatus? = some .runnable := by decide +kernel
set_option maxRecDepth 65536 in
theorem w_alone : about1.alone = true := by decide +kernel
set_option maxRecDepth 65536 in
theorem w_named : about1.methodNamed? x = some theMethod := by decide +kernel
set_option maxRecDepth 65536 in
theorem w_hears : about1.hears theMethod below0 = true := by decide +kernel
set_option maxRecDepth 65536 in
theorem w_ripe : about1.ripe theMethod args0 below0 = true := by decide +kernel
theorem w_running : about1.status = .running := rfl
set_option maxRecDepth 65536 in
theorem w_room : about1.hasRoom e0.platform room_1 = true :=
  launch0.hasRoom_least _ room_1 (by decide +kernel) (by decide +kernel) (by decide +kernel) (by decide +kernel) (by decide +kernel) (by decide +kernel)
theorem allAtoms_all (ts : List Jvm.Cond) (a : Array Jvm.Value) (st : Jvm.State) : (allAtoms ts).before a st = ts.all (fun c => c.before a st) := by
  induction ts with
  | nil => rfl
  | cons c t ih =>
    show (Jvm.Cond.and c (allAtoms t)).before a st = _
    rw [Jvm.Cond.before_and, ih, List.all_cons]
def words1 : List Jvm.Cond := Jvm.Cond.code x code maxLocals ret :: tables_1
/-- a 'code' word, met by the world's own term for the bytes: nothing is compared byte by byte -/
theorem code_word {y : MethodName} {bytes : ByteArray} {mx : Nat} {rt : Option FieldType} {a : Array Value} {s : State} {m : MethodId} {meth : Method} {c : Code} (h1 : s.methodNamed? y = some m) (h2 : s.vm.method? m = some meth) (h3 : meth.code = some c) (h4 : c.code = bytes)
    (h5 : (c.maxLocals == mx && c.exceptionTable.isEmpty && decide (c.maxStack ≤ mostOperands) && decide (meth.sig.returnType = rt) && !meth.locks && decide (parseMethodDescriptor y.desc = some meth.sig)) = true) : (Jvm.Cond.code y bytes mx rt).before a s = true := by
  simp only [Bool.and_eq_true, beq_iff_eq, Bool.not_eq_true', decide_eq_true_eq] at h5
  obtain ⟨⟨⟨⟨⟨g1, g2⟩, g3⟩, g4⟩, g5⟩, g6⟩ := h5
  simp [Cond.before, Cond.holds, Cond.value, h1, h2, h3, h4, g1, g2, g3, g4, g5, g6]
def isCode : Jvm.Cond → Bool
  | .code _ _ _ _ => true
  | _ => false
theorem all_split {L : List Jvm.Cond} {P : Jvm.Cond → Bool} (h1 : L.all (fun c => isCode c || P c) = true) (h2 : ∀ c ∈ L.filter isCode, P c = true) : L.all P = true := by
  refine List.all_eq_true.mpr fun c hc => ?_
  have h := List.all_eq_true.mp h1 c hc
  rcases Bool.eq_false_or_eq_true (isCode c) with hi | hi
  · exact h2 c (List.mem_filter.mpr ⟨hc, hi⟩)
  · simpa [hi] using h
set_option maxRecDepth 65536 in
theorem w_c0 : (Jvm.Cond.code x code maxLocals ret).before args0 about1 = true := code_word (m := ⟨1, 1⟩) (meth := k1m1) (c := k1c1) (by decide +kernel) rfl rfl rfl (by decide +kernel)
set_option maxRecDepth 65536 in
theorem w_c1 : (Jvm.Cond.code ({ cls := "com/example/keelstore/keelstore/layout/ConsumeQueueEntry", name := "<init>", desc := "(JIJ)V" } : Jvm.MethodName) prog_24_method_1_code (6 : Nat) (Option.none : Option Jvm.ClassFile.FieldType)).before args0 about1 = true := code_word (m := ⟨3, 0⟩) (meth := k3m0) (c := k3c0) (by decide +kernel) rfl rfl rfl (by decide +kernel)
set_option maxRecDepth 65536 in
theorem w_c2 : (Jvm.Cond.code ({ cls := "java/lang/Record", name := "<init>", desc := "()V" } : Jvm.MethodName) jdk_30_method_1_code (1 : Nat) (Option.none : Option Jvm.ClassFile.FieldType)).before args0 about1 = true := code_word (m := ⟨2, 0⟩) (meth := k2m0) (c := k2c0) (by decide +kernel) rfl rfl rfl (by decide +kernel)
set_option maxRecDepth 65536 in
theorem w_c3 : (Jvm.Cond.code ({ cls := "java/lang/Object", name := "<init>", desc := "()V" } : Jvm.MethodName) object_method_1_code (1 : Nat) (Option.none : Option Jvm.ClassFile.FieldType)).before args0 about1 = true := code_word (m := ⟨0, 0⟩) (meth := k0m0) (c := k0c0) (by decide +kernel) rfl rfl rfl (by decide +kernel)
set_option maxRecDepth 65536 in
theorem w_c4 : (Jvm.Cond.code ({ cls := "java/lang/Long", name := "valueOf", desc := "(J)Ljava/lang/Long;" } : Jvm.MethodName) jdk_35_method_24_code (3 : Nat) (Option.some (Jvm.ClassFile.FieldType.object "java/lang/Long"))).before args0 about1 = true := code_word (m := ⟨9, 0⟩) (meth := k9m0) (c := k9c0) (by decide +kernel) rfl rfl rfl (by decide +kernel)
set_option maxRecDepth 65536 in
theorem w_c5 : (Jvm.Cond.code ({ cls := "com/example/keelstore/keelstore/layout/ConsumeQueueEntry", name := "equals", desc := "(Ljava/lang/Object;)Z" } : Jvm.MethodName) prog_24_method_6_code (3 : Nat) (Option.some Jvm.ClassFile.FieldType.boolean)).before args0 about1 = true := code_word (m := ⟨3, 1⟩) (meth := k3m1) (c := k3c1) (by decide +kernel) rfl rfl rfl (by decide +kernel)
set_option maxRecDepth 65536 in
theorem w_c6 : (Jvm.Cond.code ({ cls := "java/lang/Long", name := "<init>", desc := "(J)V" } : Jvm.MethodName) jdk_35_method_26_code (3 : Nat) (Option.none : Option Jvm.ClassFile.FieldType)).before args0 about1 = true := code_word (m := ⟨9, 1⟩) (meth := k9m1) (c := k9c1) (by decide +kernel) rfl rfl rfl (by decide +kernel)
set_option maxRecDepth 65536 in
theorem w_c7 : (Jvm.Cond.code ({ cls := "java/lang/Number", name := "<init>", desc := "()V" } : Jvm.MethodName) jdk_18_method_1_code (1 : Nat) (Option.none : Option Jvm.ClassFile.FieldType)).before args0 about1 = true := code_word (m := ⟨5, 0⟩) (meth := k5m0) (c := k5c0) (by decide +kernel) rfl rfl rfl (by decide +kernel)
set_option maxRecDepth 65536 in
theorem w_c8 : (Jvm.Cond.code ({ cls := "com/example/keelstore/keelstore/layout/ConsumeQueueEntry", name := "hashCode", desc := "()I" } : Jvm.MethodName) prog_24_method_7_code (1 : Nat) (Option.some Jvm.ClassFile.FieldType.int)).before args0 about1 = true := code_word (m := ⟨3, 2⟩) (meth := k3m2) (c := k3c2) (by decide +kernel) rfl rfl rfl (by decide +kernel)
set_option maxRecDepth 65536 in
theorem w_c9 : (Jvm.Cond.code ({ cls := "java/lang/Long", name := "hashCode", desc := "(J)I" } : Jvm.MethodName) jdk_35_method_36_code (2 : Nat) (Option.some Jvm.ClassFile.FieldType.int)).before args0 about1 = true := code_word (m := ⟨9, 2⟩) (meth := k9m2) (c := k9c2) (by decide +kernel) rfl rfl rfl (by decide +kernel)
def codes1 : List Jvm.Cond := [Jvm.Cond.code x code maxLocals ret, Jvm.Cond.code ({ cls := "com/example/keelstore/keelstore/layout/ConsumeQueueEntry", name := "<init>", desc := "(JIJ)V" } : Jvm.MethodName) prog_24_method_1_code (6 : Nat) (Option.none : Option Jvm.ClassFile.FieldType), Jvm.Cond.code ({ cls := "java/lang/Record", name := "<init>", desc := "()V" } : Jvm.MethodName) jdk_30_method_1_code (1 : Nat) (Option.none : Option Jvm.ClassFile.FieldType), Jvm.Cond.code ({ cls := "java/lang/Object", name := "<init>", desc := "()V" } : Jvm.MethodName) object_method_1_code (1 : Nat) (Option.none : Option Jvm.ClassFile.FieldType), Jvm.Cond.code ({ cls := "java/lang/Long", name := "valueOf", desc := "(J)Ljava/lang/Long;" } : Jvm.MethodName) jdk_35_method_24_code (3 : Nat) (Option.some (Jvm.ClassFile.FieldType.object "java/lang/Long")), Jvm.Cond.code ({ cls := "com/example/keelstore/keelstore/layout/ConsumeQueueEntry", name := "equals", desc := "(Ljava/lang/Object;)Z" } : Jvm.MethodName) prog_24_method_6_code (3 : Nat) (Option.some Jvm.ClassFile.FieldType.boolean), Jvm.Cond.code ({ cls := "java/lang/Long", name := "<init>", desc := "(J)V" } : Jvm.MethodName) jdk_35_method_26_code (3 : Nat) (Option.none : Option Jvm.ClassFile.FieldType), Jvm.Cond.code ({ cls := "java/lang/Number", name := "<init>", desc := "()V" } : Jvm.MethodName) jdk_18_method_1_code (1 : Nat) (Option.none : Option Jvm.ClassFile.FieldType), Jvm.Cond.code ({ cls := "com/example/keelstore/keelstore/layout/ConsumeQueueEntry", name := "hashCode", desc := "()I" } : Jvm.MethodName) prog_24_method_7_code (1 : Nat) (Option.some Jvm.ClassFile.FieldType.int), Jvm.Cond.code ({ cls := "java/lang/Long", name := "hashCode", desc := "(J)I" } : Jvm.MethodName) jdk_35_method_36_code (2 : Nat) (Option.some Jvm.ClassFile.FieldType.int)]
set_option maxRecDepth 65536 in
theorem codes_eq : words1.filter isCode = codes1 := rfl
theorem w_codes : ∀ c ∈ words1.filter isCode, c.before args0 about1 = true := by
  rw [codes_eq]
  intro c hc
  simp only [codes1, List.mem_cons, List.not_mem_nil, or_false] at hc
  rcases hc with rfl | rfl | rfl | rfl | rfl | rfl | rfl | rfl | rfl | rfl
  · exact w_c0
  · exact w_c1
  · exact w_c2
  · exact w_c3
  · exact w_c4
  · exact w_c5
  · exact w_c6
  · exact w_c7
  · exact w_c8
  · exact w_c9
set_option maxRecDepth 65536 in
theorem w_t1 : (words1.take 24).all (fun c => isCode c || c.before args0 about1) = true := by decide +kernel
set_option maxRecDepth 65536 in
theorem w_t2 : ((words1.drop 24).take 24).all (fun c => isCode c || c.before args0 about1) = true := by decide +kernel
set_option maxRecDepth 65536 in
theorem w_t3 : ((words1.drop 24).drop 24).all (fun c => isCode c || c.before args0 about1) = true := by decide +kernel
theorem w_tables : (allAtoms (Jvm.Cond.code x code maxLocals ret :: tables_1)).before args0 about1 = true := by
  rw [allAtoms_all]
  show words1.all (fun c => c.before args0 about1) = true
  refine all_split ?_ w_codes
  rw [← List.take_append_drop 24 words1, List.all_append, w_t1, ← List.take_append_drop 24 (words1.drop 24), List.all_append, w_t2, w_t3]
  rfl
set_option maxRecDepth 65536 in
theorem w_rest : rest_1_c.before args0 about1 = true := by decide +kernel
set_option maxRecDepth 65536 in
theorem w_case : (Jvm.Cond.and given_1 narrow_1).before args0 about1 = true := by decide +kernel
theorem w_applies : (headSpec (Jvm.Cond.code x code maxLocals ret :: tables_1) room_1).applies x e0.platform about1 = true :=
  (Spec.applies_iff w_frames).mpr ⟨w_running, w_runnable, w_alone, w_named, w_hears, w_ripe, w_room, w_tables⟩
theorem atStart : AtStart classFile x code maxLocals ret World_1 tables_1 room_1 Calls_1 rest_1 Pre_1 launch0 p0 e0 about1 theMethod args0 below0 :=
  ⟨lists_1, trivial, launch0.admits_env _ _ _, launch0.least_env, fairChoices_fair.cas, fairChoices_fair.clock, w_frames, w_args, w_heap, w_applies, trivial, w_rest, w_case⟩
end start1
theorem witness_1 : WitnessClaimed_1 := ⟨start1.p0, start1.e0, start1.about1, start1.theMethod, start1.args0, start1.below0, start1.atStart⟩
end Jvm.Pilot.@@N@@
