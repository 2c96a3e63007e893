import JvmDerived
import JvmDerived.Pilot.@@N@@Statement
import JvmDerived.Pilot.@@N@@Code
set_option linter.unusedVariables false
set_option linter.unusedSimpArgs false
namespace Jvm.RoadKit
open Sem ClassFile Op Lib Jvm.Stand Jvm.Free Jvm.LawKit
section New
variable {p : Program} {l : Launch} {e : Env} {R : Room} {s : State} {m : MethodId} {args : Array Value} {below : List Frame} {meth : Method} {c : Code} {T : State} {locs : List Loc} {cells slots : Nat}
theorem retI (X : Stand p l e R s m args below meth c T locs cells slots) (hx : p.tables.exec = Jvm.exec) {pc : Nat} {Ls : Array Slot} {z : Int32} {rest : List Value} (hret : meth.sig.returnType = some .int) (hd : decode c.code pc = .ok (.ireturn, 1)) {fs : List Frame}
    (hl : ∀ (f : JFrame) (acts : List Action), f.method = m → f.locked = none → f.entered = [] → (doReturn e (T.setTop f) acts (some (.int z))).1 = T.setFrames fs) : Steps p.tables e below (T.setTop (mkF m pc Ls (.int z :: rest))) (T.setFrames fs) := by
  have hm' : T.vm.method? m = some meth := X.method'
  have hn : narrow .int (.int z) = .int z := rfl
  show Steps p.tables e below (T.setTop { method := m, pc := pc, locals := Ls, stack := _ :: rest, locked := none }) _
  jvm_step X.here [X.here.top, hx, hd, hm', hret, hn]
  first | (intro acts; rw [hl _ acts rfl rfl rfl]) | rw [hl _ _ rfl rfl rfl]
  exact Steps.refl _
end New
end Jvm.RoadKit
namespace Jvm.Pilot.@@N@@
open Jvm Jvm.ClassFile Sem Op Lib Jvm.Free Jvm.Stand Jvm.LawKit Jvm.RoadKit Bundle Jvm.Pilot.@@N@@.Jvm.D
section OwnKit
variable {p : Program} {l : Launch} {e : Env} {R : Room} {s : State} {m : MethodId} {args : Array Value} {below : List Frame} {meth : Method} {c : Code} {Z : State} {own nm : String} {bytes : ByteArray} {maxL : Nat} {rt : Option FieldType} {n0 : Nat} {h0 : Heap} {ws : List Addr} {Q : Option Value → Heap → Prop} {cells slots : Nat} {h : Heap} {pc pc' : Nat} {ls ls' : Array Slot} {st : List Value} {a0 : Array Value}
/-- what is fixed in a body -/
def Cx (p : Program) (s : State) (m : MethodId) (meth : Method) (c : Code) (Z : State) (own nm : String) (bytes : ByteArray) (maxL : Nat) (rt : Option FieldType) (n0 : Nat) (h0 : Heap) (ws : List Addr) : Prop :=
  (p.tables.exec = Jvm.exec ∧ c.code = bytes ∧ c.maxLocals = maxL ∧ s.vm.findClass own = some m.cls ∧ Z.Warmed39 s.vm) ∧ (meth.sig.returnType = rt ∧ meth.locks = false ∧ meth.name = nm ∧ n0 ≤ h0.size ∧ ∀ x ∈ ws, n0 ≤ x)
/-- from every state that stands here with the heap h at the frame g, the run returns and Q holds at the end -/
def G (p : Program) (l : Launch) (e : Env) (R : Room) (s : State) (m : MethodId) (args : Array Value) (below : List Frame) (meth : Method) (c : Code) (n0 : Nat) (h0 : Heap) (ws : List Addr) (Q : Option Value → Heap → Prop) (cells slots : Nat) (h : Heap) (g : JFrame) : Prop :=
  ∀ (T : State) (locs : List Loc) (k n : Nat), Stand p l e R s m args below meth c T locs k n → k ≤ cells → n ≤ slots → T.heap = h → Fr n0 locs → Keep h0 h ws →
    ∃ (U : State) (v : Option Value) (L : List Loc), Steps p.tables e below (T.setTop g) U ∧ U.status = .running ∧ Ended U below (.returned v) ∧ (Fr n0 L ∧ Keep h0 U.heap ws ∧ Q v U.heap) ∧ FrameEnd s (.returned v) U L R.cells R.slots
/-- the contract of a callee: called with these arguments at this heap it returns, writes old cells of ws alone, and Q holds -/
def Mt (l : Launch) (Z : State) (y : MethodName) (bytes : ByteArray) (maxL : Nat) (rt : Option FieldType) (cs : List Jvm.Cond) (rm : Room) (n0 : Nat) (as' : Array Value) (h : Heap) (ws : List Addr) (Q : Option Value → Heap → Prop) : Prop :=
  MetFree l y (head1 (Jvm.Cond.code y bytes maxL rt :: cs) rm) (fun a U => a = as' ∧ Z.Warmed39 U.vm ∧ U.heap = h) (fun _ _ _ _ _ => True) (fun _ U o U' => ∃ v L, o = .returned v ∧ (Fr n0 L ∧ Keep h U'.heap ws ∧ Q v U'.heap) ∧ FrameEnd U o U' L rm.cells rm.slots)
def RV (Q : Heap → Prop) : Option Value → Heap → Prop := fun v h => v = none ∧ Q h
def RI (Q : Int32 → Heap → Prop) : Option Value → Heap → Prop := fun v h => ∃ z : Int32, v = some (.int z) ∧ Q z h
def RJ (Q : Int64 → Heap → Prop) : Option Value → Heap → Prop := fun v h => ∃ z : Int64, v = some (.long z) ∧ Q z h
def RA (Q : Addr → Heap → Prop) : Option Value → Heap → Prop := fun v h => ∃ z : Addr, v = some (.ref z) ∧ Q z h
theorem G.mono {g : JFrame} {cells' slots' : Nat} (hc : cells ≤ cells') (hs : slots ≤ slots') (kk : G p l e R s m args below meth c n0 h0 ws Q cells' slots' h g) : G p l e R s m args below meth c n0 h0 ws Q cells slots h g := fun T locs k n X hk hn eT N K => kk T locs k n X (Nat.le_trans hk hc) (Nat.le_trans hn hs) eT N K
theorem G.stepX {g g' : JFrame} (stp : ∀ T locs k n t, Stand p l e R s m args below meth c T locs k n → T.heap = h → Steps p.tables e below (T.setTop g') t → Steps p.tables e below (T.setTop g) t) (kk : G p l e R s m args below meth c n0 h0 ws Q cells slots h g') : G p l e R s m args below meth c n0 h0 ws Q cells slots h g := fun T locs k n X hk hn eT N K => by
  obtain ⟨U, v, L, hs, r⟩ := kk T locs k n X hk hn eT N K
  exact ⟨U, v, L, stp T locs k n U X eT hs, r⟩
theorem G.stepT {g g' : JFrame} (stp : ∀ T locs k n, Stand p l e R s m args below meth c T locs k n → T.heap = h → ∃ T', Stand p l e R s m args below meth c T' locs k n ∧ T'.heap = h ∧ ∀ t, Steps p.tables e below (T'.setTop g') t → Steps p.tables e below (T.setTop g) t) (kk : G p l e R s m args below meth c n0 h0 ws Q cells slots h g') : G p l e R s m args below meth c n0 h0 ws Q cells slots h g := fun T locs k n X hk hn eT N K => by
  obtain ⟨T', X', e', stp'⟩ := stp T locs k n X eT
  obtain ⟨U, v, L, hs, r⟩ := kk T' locs k n X' hk hn e' N K
  exact ⟨U, v, L, stp' U hs, r⟩
theorem own_fr {a : Addr} (B : Cx p s m meth c Z own nm bytes maxL rt n0 h0 ws) (ha : a ∈ ws ∨ h0.size ≤ a) : n0 ≤ a := ha.elim (B.2.2.2.2.2 a) (Nat.le_trans B.2.2.2.2.1)
theorem G.wr {g g' : JFrame} {a : Addr} {sl : Nat} {v : Value} (B : Cx p s m meth c Z own nm bytes maxL rt n0 h0 ws) (ha : a ∈ ws ∨ h0.size ≤ a) (stp : ∀ T locs k n, Stand p l e R s m args below meth c T locs k n → T.heap = h → ∃ T' h', Stand p l e R s m args below meth c T' (locs ++ [⟨a, sl⟩]) k n ∧ T'.heap = h' ∧ Wr h h' a sl v ∧ ∀ t, Steps p.tables e below (T'.setTop g') t → Steps p.tables e below (T.setTop g) t) (kk : ∀ h', Wr h h' a sl v → G p l e R s m args below meth c n0 h0 ws Q cells slots h' g') : G p l e R s m args below meth c n0 h0 ws Q cells slots h g := fun T locs k n X hk hn eT N K => by
  obtain ⟨T', h', X', e', W, stp'⟩ := stp T locs k n X eT
  obtain ⟨U, v, L, hs, r⟩ := kk h' W T' _ k n X' hk hn e' (Fr.snoc X' N (own_fr B ha)) (K.wr W ha)
  exact ⟨U, v, L, stp' U hs, r⟩
theorem G.out {g : JFrame} {v : Option Value} (B : Cx p s m meth c Z own nm bytes maxL rt n0 h0 ws) (hv : rt = none → v = none) (hc : cells ≤ R.cells) (hs : slots ≤ R.slots) (hQ : Q v h)
    (stp : ∀ T locs k n fs, Stand p l e R s m args below meth c T locs k n → (∀ (f : JFrame) (acts : List Action), f.method = m → f.locked = none → f.entered = [] → (doReturn e (T.setTop f) acts v).1 = T.setFrames fs) → Steps p.tables e below (T.setTop g) (T.setFrames fs)) : G p l e R s m args below meth c n0 h0 ws Q cells slots h g := fun T locs k n X hk hn eT N K => by
  obtain ⟨fs, hr, hrun, hended, hW, hsame⟩ := X.leave (v := v) (fun q => hv (B.2.1.symm.trans q)) B.2.2.1
  refine ⟨T.setFrames fs, v, locs, stp T locs k n fs X hr, hrun, hended, ⟨N, ?_, ?_⟩, ⟨_, rfl⟩, hW, hsame.mono (Nat.le_trans hk hc) (Nat.le_trans hn hs)⟩
  · show Keep h0 T.heap ws
    rw [eT]; exact K
  · show Q v T.heap
    rw [eT]; exact hQ
theorem Mt.intro {y : MethodName} {cs : List Jvm.Cond} {as' : Array Value} (hpl : plainFor y = true) (hn : n0 ≤ h0.size) (hws : ∀ x ∈ ws, n0 ≤ x)
    (body : ∀ p e s m below meth c, Cx p s m meth c Z y.cls y.name bytes maxL rt n0 h0 ws → G p l e R s m as' below meth c n0 h0 ws Q 0 0 h0 (entryFrame m as' maxL)) : Mt l Z y bytes maxL rt cs R n0 as' h0 ws Q := by
  refine MetFree.of_bodySF hpl hisR ?_
  intro p e s m args below meth c s₁ Bd hml0 hP hK
  obtain ⟨rfl, hZ, hh⟩ := hP
  have B : Cx p s m meth c Z y.cls y.name bytes maxL rt n0 h0 ws := ⟨⟨Bd.exec, Bd.bytes, hml0, findClass_of_methodNamed Bd.named, hZ⟩, Bd.returns, Bd.notSynchronized, (name_of_methodNamed Bd.named Bd.method).1, hn, hws⟩
  have X0 : Stand p l e R s m args below meth c s₁ [] 0 0 := Stand.of_body Bd
  have e0 : s₁.heap = h0 := by rw [← hh, Bd.state]; rfl
  obtain ⟨U, v, L, hs, h1, h2, h3, h4⟩ := body p e s m below meth c B s₁ [] 0 0 X0 (Nat.le_refl _) (Nat.le_refl _) e0 (Fr.nil n0) (Keep.refl _ _)
  exact ⟨U, _, hs, h1, h2, v, L, rfl, h3, h4⟩
theorem G.entry {g g' : JFrame} (q : g = g') (kk : G p l e R s m args below meth c n0 h0 ws Q cells slots h g') : G p l e R s m args below meth c n0 h0 ws Q cells slots h g := q ▸ kk
theorem G.iloadN {k : Fin 4} {v : Int32} (B : Cx p s m meth c Z own nm bytes maxL rt n0 h0 ws) (hd : decode bytes pc = .ok (.iload_n k, 1)) (hl : ls[k.val]? = some (.val (.int v))) (hp : pc + 1 = pc') (kk : G p l e R s m args below meth c n0 h0 ws Q cells slots h (mkF m pc' ls (.int v :: st))) : G p l e R s m args below meth c n0 h0 ws Q cells slots h (mkF m pc ls st) := by
  subst hp
  exact G.stepX (fun T locs k n t X _ q => XS.iloadN X.here B.1.1 rfl (hb B.1.2.1 hd) hl q) kk
theorem G.iload {k : Nat} {v : Int32} (B : Cx p s m meth c Z own nm bytes maxL rt n0 h0 ws) (hd : decode bytes pc = .ok (.iload k, 2)) (hl : ls[k]? = some (.val (.int v))) (hp : pc + 2 = pc') (kk : G p l e R s m args below meth c n0 h0 ws Q cells slots h (mkF m pc' ls (.int v :: st))) : G p l e R s m args below meth c n0 h0 ws Q cells slots h (mkF m pc ls st) := by
  subst hp
  exact G.stepX (fun T locs k n t X _ q => XS.iload X.here B.1.1 rfl (hb B.1.2.1 hd) hl q) kk
theorem G.lloadN {k : Fin 4} {v : Int64} (B : Cx p s m meth c Z own nm bytes maxL rt n0 h0 ws) (hd : decode bytes pc = .ok (.lload_n k, 1)) (hl : ls[k.val]? = some (.val (.long v))) (hp : pc + 1 = pc') (kk : G p l e R s m args below meth c n0 h0 ws Q cells slots h (mkF m pc' ls (.long v :: st))) : G p l e R s m args below meth c n0 h0 ws Q cells slots h (mkF m pc ls st) := by
  subst hp
  exact G.stepX (fun T locs k n t X _ q => XS.lloadN X.here B.1.1 rfl (hb B.1.2.1 hd) hl q) kk
theorem G.lload {k : Nat} {v : Int64} (B : Cx p s m meth c Z own nm bytes maxL rt n0 h0 ws) (hd : decode bytes pc = .ok (.lload k, 2)) (hl : ls[k]? = some (.val (.long v))) (hp : pc + 2 = pc') (kk : G p l e R s m args below meth c n0 h0 ws Q cells slots h (mkF m pc' ls (.long v :: st))) : G p l e R s m args below meth c n0 h0 ws Q cells slots h (mkF m pc ls st) := by
  subst hp
  exact G.stepX (fun T locs k n t X _ q => XS.lload X.here B.1.1 rfl (hb B.1.2.1 hd) hl q) kk
theorem G.aloadN {k : Fin 4} {v : Value} (B : Cx p s m meth c Z own nm bytes maxL rt n0 h0 ws) (hd : decode bytes pc = .ok (.aload_n k, 1)) (hl : ls[k.val]? = some (.val v)) (hv : v.isRef = true) (hp : pc + 1 = pc') (kk : G p l e R s m args below meth c n0 h0 ws Q cells slots h (mkF m pc' ls (v :: st))) : G p l e R s m args below meth c n0 h0 ws Q cells slots h (mkF m pc ls st) := by
  subst hp
  exact G.stepX (fun T locs k n t X _ q => XS.aloadN X.here B.1.1 rfl (hb B.1.2.1 hd) hl hv q) kk
theorem G.aload {k : Nat} {v : Value} (B : Cx p s m meth c Z own nm bytes maxL rt n0 h0 ws) (hd : decode bytes pc = .ok (.aload k, 2)) (hl : ls[k]? = some (.val v)) (hv : v.isRef = true) (hp : pc + 2 = pc') (kk : G p l e R s m args below meth c n0 h0 ws Q cells slots h (mkF m pc' ls (v :: st))) : G p l e R s m args below meth c n0 h0 ws Q cells slots h (mkF m pc ls st) := by
  subst hp
  exact G.stepX (fun T locs k n t X _ q => XS.aload X.here B.1.1 rfl (hb B.1.2.1 hd) hl hv q) kk
theorem G.istoreN {k : Fin 4} {v : Int32} (B : Cx p s m meth c Z own nm bytes maxL rt n0 h0 ws) (hd : decode bytes pc = .ok (.istore_n k, 1)) (hl : storeLocals ls k.val (.int v) = some ls') (hp : pc + 1 = pc') (kk : G p l e R s m args below meth c n0 h0 ws Q cells slots h (mkF m pc' ls' st)) : G p l e R s m args below meth c n0 h0 ws Q cells slots h (mkF m pc ls (.int v :: st)) := by
  subst hp
  exact G.stepX (fun T locs k n t X _ q => XS.istoreN X.here B.1.1 rfl (hb B.1.2.1 hd) rfl hl q) kk
theorem G.istore {k : Nat} {v : Int32} (B : Cx p s m meth c Z own nm bytes maxL rt n0 h0 ws) (hd : decode bytes pc = .ok (.istore k, 2)) (hl : storeLocals ls k (.int v) = some ls') (hp : pc + 2 = pc') (kk : G p l e R s m args below meth c n0 h0 ws Q cells slots h (mkF m pc' ls' st)) : G p l e R s m args below meth c n0 h0 ws Q cells slots h (mkF m pc ls (.int v :: st)) := by
  subst hp
  exact G.stepX (fun T locs k n t X _ q => XS.istore X.here B.1.1 rfl (hb B.1.2.1 hd) rfl hl q) kk
theorem G.lstoreN {k : Fin 4} {v : Int64} (B : Cx p s m meth c Z own nm bytes maxL rt n0 h0 ws) (hd : decode bytes pc = .ok (.lstore_n k, 1)) (hl : storeLocals ls k.val (.long v) = some ls') (hp : pc + 1 = pc') (kk : G p l e R s m args below meth c n0 h0 ws Q cells slots h (mkF m pc' ls' st)) : G p l e R s m args below meth c n0 h0 ws Q cells slots h (mkF m pc ls (.long v :: st)) := by
  subst hp
  exact G.stepX (fun T locs k n t X _ q => XS.lstoreN X.here B.1.1 rfl (hb B.1.2.1 hd) rfl hl q) kk
theorem G.lstore {k : Nat} {v : Int64} (B : Cx p s m meth c Z own nm bytes maxL rt n0 h0 ws) (hd : decode bytes pc = .ok (.lstore k, 2)) (hl : storeLocals ls k (.long v) = some ls') (hp : pc + 2 = pc') (kk : G p l e R s m args below meth c n0 h0 ws Q cells slots h (mkF m pc' ls' st)) : G p l e R s m args below meth c n0 h0 ws Q cells slots h (mkF m pc ls (.long v :: st)) := by
  subst hp
  exact G.stepX (fun T locs k n t X _ q => XS.lstore X.here B.1.1 rfl (hb B.1.2.1 hd) rfl hl q) kk
theorem G.astoreN {k : Fin 4} {v : Value} (B : Cx p s m meth c Z own nm bytes maxL rt n0 h0 ws) (hd : decode bytes pc = .ok (.astore_n k, 1)) (hv : v.isRef = true) (hl : storeLocals ls k.val v = some ls') (hp : pc + 1 = pc') (kk : G p l e R s m args below meth c n0 h0 ws Q cells slots h (mkF m pc' ls' st)) : G p l e R s m args below meth c n0 h0 ws Q cells slots h (mkF m pc ls (v :: st)) := by
  subst hp
  exact G.stepX (fun T locs k n t X _ q => XS.astoreN X.here B.1.1 rfl (hb B.1.2.1 hd) rfl hv hl q) kk
theorem G.astore {k : Nat} {v : Value} (B : Cx p s m meth c Z own nm bytes maxL rt n0 h0 ws) (hd : decode bytes pc = .ok (.astore k, 2)) (hv : v.isRef = true) (hl : storeLocals ls k v = some ls') (hp : pc + 2 = pc') (kk : G p l e R s m args below meth c n0 h0 ws Q cells slots h (mkF m pc' ls' st)) : G p l e R s m args below meth c n0 h0 ws Q cells slots h (mkF m pc ls (v :: st)) := by
  subst hp
  exact G.stepX (fun T locs k n t X _ q => XS.astore X.here B.1.1 rfl (hb B.1.2.1 hd) rfl hv hl q) kk
theorem G.iconst {i : Int} {z : Int32} (B : Cx p s m meth c Z own nm bytes maxL rt n0 h0 ws) (hd : decode bytes pc = .ok (.iconst i, 1)) (hz : Int32.ofInt i = z) (hp : pc + 1 = pc') (kk : G p l e R s m args below meth c n0 h0 ws Q cells slots h (mkF m pc' ls (.int z :: st))) : G p l e R s m args below meth c n0 h0 ws Q cells slots h (mkF m pc ls st) := by
  subst hp hz
  exact G.stepX (fun T locs k n t X _ q => XS.iconst X.here B.1.1 rfl (hb B.1.2.1 hd) q) kk
theorem G.bipush {i : Int} {z : Int32} (B : Cx p s m meth c Z own nm bytes maxL rt n0 h0 ws) (hd : decode bytes pc = .ok (.bipush i, 2)) (hz : (Int8.ofInt i).toInt32 = z) (hp : pc + 2 = pc') (kk : G p l e R s m args below meth c n0 h0 ws Q cells slots h (mkF m pc' ls (.int z :: st))) : G p l e R s m args below meth c n0 h0 ws Q cells slots h (mkF m pc ls st) := by
  subst hp hz
  exact G.stepX (fun T locs k n t X _ q => XS.bipush X.here B.1.1 rfl (hb B.1.2.1 hd) q) kk
theorem G.sipush {i : Int} {z : Int32} (B : Cx p s m meth c Z own nm bytes maxL rt n0 h0 ws) (hd : decode bytes pc = .ok (.sipush i, 3)) (hz : (Int16.ofInt i).toInt32 = z) (hp : pc + 3 = pc') (kk : G p l e R s m args below meth c n0 h0 ws Q cells slots h (mkF m pc' ls (.int z :: st))) : G p l e R s m args below meth c n0 h0 ws Q cells slots h (mkF m pc ls st) := by
  subst hp hz
  exact G.stepX (fun T locs k n t X _ q => XS.sipush X.here B.1.1 rfl (hb B.1.2.1 hd) q) kk
theorem G.lconst {i : Fin 2} {z : Int64} (B : Cx p s m meth c Z own nm bytes maxL rt n0 h0 ws) (hd : decode bytes pc = .ok (.lconst i, 1)) (hz : Int64.ofNat i = z) (hp : pc + 1 = pc') (kk : G p l e R s m args below meth c n0 h0 ws Q cells slots h (mkF m pc' ls (.long z :: st))) : G p l e R s m args below meth c n0 h0 ws Q cells slots h (mkF m pc ls st) := by
  subst hp hz
  exact G.stepX (fun T locs k n t X _ q => XS.lconst X.here B.1.1 rfl (hb B.1.2.1 hd) q) kk
theorem G.aconstNull (B : Cx p s m meth c Z own nm bytes maxL rt n0 h0 ws) (hd : decode bytes pc = .ok (.aconst_null, 1)) (hp : pc + 1 = pc') (kk : G p l e R s m args below meth c n0 h0 ws Q cells slots h (mkF m pc' ls (.null :: st))) : G p l e R s m args below meth c n0 h0 ws Q cells slots h (mkF m pc ls st) := by
  subst hp
  exact G.stepX (fun T locs k n t X _ q => XS.aconstNull X.here B.1.1 rfl (hb B.1.2.1 hd) q) kk
theorem G.iadd {x y : Int32} (B : Cx p s m meth c Z own nm bytes maxL rt n0 h0 ws) (hd : decode bytes pc = .ok (.iadd, 1)) (hp : pc + 1 = pc') (kk : G p l e R s m args below meth c n0 h0 ws Q cells slots h (mkF m pc' ls (.int (x + y) :: st))) : G p l e R s m args below meth c n0 h0 ws Q cells slots h (mkF m pc ls (.int y :: .int x :: st)) := by
  subst hp
  exact G.stepX (fun T locs k n t X _ q => XS.iadd X.here B.1.1 rfl (hb B.1.2.1 hd) rfl q) kk
theorem G.ladd {x y : Int64} (B : Cx p s m meth c Z own nm bytes maxL rt n0 h0 ws) (hd : decode bytes pc = .ok (.ladd, 1)) (hp : pc + 1 = pc') (kk : G p l e R s m args below meth c n0 h0 ws Q cells slots h (mkF m pc' ls (.long (x + y) :: st))) : G p l e R s m args below meth c n0 h0 ws Q cells slots h (mkF m pc ls (.long y :: .long x :: st)) := by
  subst hp
  exact G.stepX (fun T locs k n t X _ q => XS.ladd X.here B.1.1 rfl (hb B.1.2.1 hd) rfl q) kk
theorem G.isub {x y : Int32} (B : Cx p s m meth c Z own nm bytes maxL rt n0 h0 ws) (hd : decode bytes pc = .ok (.isub, 1)) (hp : pc + 1 = pc') (kk : G p l e R s m args below meth c n0 h0 ws Q cells slots h (mkF m pc' ls (.int (x - y) :: st))) : G p l e R s m args below meth c n0 h0 ws Q cells slots h (mkF m pc ls (.int y :: .int x :: st)) := by
  subst hp
  exact G.stepX (fun T locs k n t X _ q => XS.isub X.here B.1.1 rfl (hb B.1.2.1 hd) rfl q) kk
theorem G.lsub {x y : Int64} (B : Cx p s m meth c Z own nm bytes maxL rt n0 h0 ws) (hd : decode bytes pc = .ok (.lsub, 1)) (hp : pc + 1 = pc') (kk : G p l e R s m args below meth c n0 h0 ws Q cells slots h (mkF m pc' ls (.long (x - y) :: st))) : G p l e R s m args below meth c n0 h0 ws Q cells slots h (mkF m pc ls (.long y :: .long x :: st)) := by
  subst hp
  exact G.stepX (fun T locs k n t X _ q => XS.lsub X.here B.1.1 rfl (hb B.1.2.1 hd) rfl q) kk
theorem G.imul {x y : Int32} (B : Cx p s m meth c Z own nm bytes maxL rt n0 h0 ws) (hd : decode bytes pc = .ok (.imul, 1)) (hp : pc + 1 = pc') (kk : G p l e R s m args below meth c n0 h0 ws Q cells slots h (mkF m pc' ls (.int (x * y) :: st))) : G p l e R s m args below meth c n0 h0 ws Q cells slots h (mkF m pc ls (.int y :: .int x :: st)) := by
  subst hp
  exact G.stepX (fun T locs k n t X _ q => XS.imul X.here B.1.1 rfl (hb B.1.2.1 hd) rfl q) kk
theorem G.lmul {x y : Int64} (B : Cx p s m meth c Z own nm bytes maxL rt n0 h0 ws) (hd : decode bytes pc = .ok (.lmul, 1)) (hp : pc + 1 = pc') (kk : G p l e R s m args below meth c n0 h0 ws Q cells slots h (mkF m pc' ls (.long (x * y) :: st))) : G p l e R s m args below meth c n0 h0 ws Q cells slots h (mkF m pc ls (.long y :: .long x :: st)) := by
  subst hp
  exact G.stepX (fun T locs k n t X _ q => XS.lmul X.here B.1.1 rfl (hb B.1.2.1 hd) rfl q) kk
theorem G.iand {x y : Int32} (B : Cx p s m meth c Z own nm bytes maxL rt n0 h0 ws) (hd : decode bytes pc = .ok (.iand, 1)) (hp : pc + 1 = pc') (kk : G p l e R s m args below meth c n0 h0 ws Q cells slots h (mkF m pc' ls (.int (x &&& y) :: st))) : G p l e R s m args below meth c n0 h0 ws Q cells slots h (mkF m pc ls (.int y :: .int x :: st)) := by
  subst hp
  exact G.stepX (fun T locs k n t X _ q => XS.iand X.here B.1.1 rfl (hb B.1.2.1 hd) rfl q) kk
theorem G.land {x y : Int64} (B : Cx p s m meth c Z own nm bytes maxL rt n0 h0 ws) (hd : decode bytes pc = .ok (.land, 1)) (hp : pc + 1 = pc') (kk : G p l e R s m args below meth c n0 h0 ws Q cells slots h (mkF m pc' ls (.long (x &&& y) :: st))) : G p l e R s m args below meth c n0 h0 ws Q cells slots h (mkF m pc ls (.long y :: .long x :: st)) := by
  subst hp
  exact G.stepX (fun T locs k n t X _ q => XS.land X.here B.1.1 rfl (hb B.1.2.1 hd) rfl q) kk
theorem G.ior {x y : Int32} (B : Cx p s m meth c Z own nm bytes maxL rt n0 h0 ws) (hd : decode bytes pc = .ok (.ior, 1)) (hp : pc + 1 = pc') (kk : G p l e R s m args below meth c n0 h0 ws Q cells slots h (mkF m pc' ls (.int (x ||| y) :: st))) : G p l e R s m args below meth c n0 h0 ws Q cells slots h (mkF m pc ls (.int y :: .int x :: st)) := by
  subst hp
  exact G.stepX (fun T locs k n t X _ q => XS.ior X.here B.1.1 rfl (hb B.1.2.1 hd) rfl q) kk
theorem G.lor {x y : Int64} (B : Cx p s m meth c Z own nm bytes maxL rt n0 h0 ws) (hd : decode bytes pc = .ok (.lor, 1)) (hp : pc + 1 = pc') (kk : G p l e R s m args below meth c n0 h0 ws Q cells slots h (mkF m pc' ls (.long (x ||| y) :: st))) : G p l e R s m args below meth c n0 h0 ws Q cells slots h (mkF m pc ls (.long y :: .long x :: st)) := by
  subst hp
  exact G.stepX (fun T locs k n t X _ q => XS.lor X.here B.1.1 rfl (hb B.1.2.1 hd) rfl q) kk
theorem G.ixor {x y : Int32} (B : Cx p s m meth c Z own nm bytes maxL rt n0 h0 ws) (hd : decode bytes pc = .ok (.ixor, 1)) (hp : pc + 1 = pc') (kk : G p l e R s m args below meth c n0 h0 ws Q cells slots h (mkF m pc' ls (.int (x ^^^ y) :: st))) : G p l e R s m args below meth c n0 h0 ws Q cells slots h (mkF m pc ls (.int y :: .int x :: st)) := by
  subst hp
  exact G.stepX (fun T locs k n t X _ q => XS.ixor X.here B.1.1 rfl (hb B.1.2.1 hd) rfl q) kk
theorem G.lxor {x y : Int64} (B : Cx p s m meth c Z own nm bytes maxL rt n0 h0 ws) (hd : decode bytes pc = .ok (.lxor, 1)) (hp : pc + 1 = pc') (kk : G p l e R s m args below meth c n0 h0 ws Q cells slots h (mkF m pc' ls (.long (x ^^^ y) :: st))) : G p l e R s m args below meth c n0 h0 ws Q cells slots h (mkF m pc ls (.long y :: .long x :: st)) := by
  subst hp
  exact G.stepX (fun T locs k n t X _ q => XS.lxor X.here B.1.1 rfl (hb B.1.2.1 hd) rfl q) kk
theorem G.idiv {x y : Int32} (B : Cx p s m meth c Z own nm bytes maxL rt n0 h0 ws) (hd : decode bytes pc = .ok (.idiv, 1)) (hy : y ≠ 0) (hp : pc + 1 = pc') (kk : G p l e R s m args below meth c n0 h0 ws Q cells slots h (mkF m pc' ls (.int (x / y) :: st))) : G p l e R s m args below meth c n0 h0 ws Q cells slots h (mkF m pc ls (.int y :: .int x :: st)) := by
  subst hp
  exact G.stepX (fun T locs k n t X _ q => XS.idiv X.here B.1.1 rfl (hb B.1.2.1 hd) rfl hy q) kk
theorem G.irem {x y : Int32} (B : Cx p s m meth c Z own nm bytes maxL rt n0 h0 ws) (hd : decode bytes pc = .ok (.irem, 1)) (hy : y ≠ 0) (hp : pc + 1 = pc') (kk : G p l e R s m args below meth c n0 h0 ws Q cells slots h (mkF m pc' ls (.int (x % y) :: st))) : G p l e R s m args below meth c n0 h0 ws Q cells slots h (mkF m pc ls (.int y :: .int x :: st)) := by
  subst hp
  exact G.stepX (fun T locs k n t X _ q => Jvm.RoadKit.iremM X B.1.1 rfl (hb B.1.2.1 hd) rfl hy q) kk
theorem G.ldiv {x y : Int64} (B : Cx p s m meth c Z own nm bytes maxL rt n0 h0 ws) (hd : decode bytes pc = .ok (.ldiv, 1)) (hy : y ≠ 0) (hp : pc + 1 = pc') (kk : G p l e R s m args below meth c n0 h0 ws Q cells slots h (mkF m pc' ls (.long (x / y) :: st))) : G p l e R s m args below meth c n0 h0 ws Q cells slots h (mkF m pc ls (.long y :: .long x :: st)) := by
  subst hp
  exact G.stepX (fun T locs k n t X _ q => XS.ldiv X.here B.1.1 rfl (hb B.1.2.1 hd) rfl hy q) kk
theorem G.lrem {x y : Int64} (B : Cx p s m meth c Z own nm bytes maxL rt n0 h0 ws) (hd : decode bytes pc = .ok (.lrem, 1)) (hy : y ≠ 0) (hp : pc + 1 = pc') (kk : G p l e R s m args below meth c n0 h0 ws Q cells slots h (mkF m pc' ls (.long (x % y) :: st))) : G p l e R s m args below meth c n0 h0 ws Q cells slots h (mkF m pc ls (.long y :: .long x :: st)) := by
  subst hp
  rw [← lrem_mod] at kk
  exact G.stepX (fun T locs k n t X _ q => XS.lrem X.here B.1.1 rfl (hb B.1.2.1 hd) rfl hy q) kk
theorem G.ishl {x y : Int32} (B : Cx p s m meth c Z own nm bytes maxL rt n0 h0 ws) (hd : decode bytes pc = .ok (.ishl, 1)) (hp : pc + 1 = pc') (kk : G p l e R s m args below meth c n0 h0 ws Q cells slots h (mkF m pc' ls (.int (x <<< (y &&& 31)) :: st))) : G p l e R s m args below meth c n0 h0 ws Q cells slots h (mkF m pc ls (.int y :: .int x :: st)) := by
  subst hp
  exact G.stepX (fun T locs k n t X _ q => XS.ishl X.here B.1.1 rfl (hb B.1.2.1 hd) rfl q) kk
theorem G.ishr {x y : Int32} (B : Cx p s m meth c Z own nm bytes maxL rt n0 h0 ws) (hd : decode bytes pc = .ok (.ishr, 1)) (hp : pc + 1 = pc') (kk : G p l e R s m args below meth c n0 h0 ws Q cells slots h (mkF m pc' ls (.int (x >>> (y &&& 31)) :: st))) : G p l e R s m args below meth c n0 h0 ws Q cells slots h (mkF m pc ls (.int y :: .int x :: st)) := by
  subst hp
  exact G.stepX (fun T locs k n t X _ q => XS.ishr X.here B.1.1 rfl (hb B.1.2.1 hd) rfl q) kk
theorem G.iushr {x y : Int32} (B : Cx p s m meth c Z own nm bytes maxL rt n0 h0 ws) (hd : decode bytes pc = .ok (.iushr, 1)) (hp : pc + 1 = pc') (kk : G p l e R s m args below meth c n0 h0 ws Q cells slots h (mkF m pc' ls (.int ((x.toUInt32 >>> (y &&& 31).toUInt32).toInt32) :: st))) : G p l e R s m args below meth c n0 h0 ws Q cells slots h (mkF m pc ls (.int y :: .int x :: st)) := by
  subst hp
  exact G.stepX (fun T locs k n t X _ q => XS.iushr X.here B.1.1 rfl (hb B.1.2.1 hd) rfl q) kk
theorem G.lshl {x : Int64} {y : Int32} (B : Cx p s m meth c Z own nm bytes maxL rt n0 h0 ws) (hd : decode bytes pc = .ok (.lshl, 1)) (hp : pc + 1 = pc') (kk : G p l e R s m args below meth c n0 h0 ws Q cells slots h (mkF m pc' ls (.long (x <<< (y &&& 0x3f).toInt64) :: st))) : G p l e R s m args below meth c n0 h0 ws Q cells slots h (mkF m pc ls (.int y :: .long x :: st)) := by
  subst hp
  exact G.stepX (fun T locs k n t X _ q => XS.lshl X.here B.1.1 rfl (hb B.1.2.1 hd) rfl q) kk
theorem G.lshr {x : Int64} {y : Int32} (B : Cx p s m meth c Z own nm bytes maxL rt n0 h0 ws) (hd : decode bytes pc = .ok (.lshr, 1)) (hp : pc + 1 = pc') (kk : G p l e R s m args below meth c n0 h0 ws Q cells slots h (mkF m pc' ls (.long (x >>> (y &&& 0x3f).toInt64) :: st))) : G p l e R s m args below meth c n0 h0 ws Q cells slots h (mkF m pc ls (.int y :: .long x :: st)) := by
  subst hp
  exact G.stepX (fun T locs k n t X _ q => XS.lshr X.here B.1.1 rfl (hb B.1.2.1 hd) rfl q) kk
theorem G.lushr {x : Int64} {y : Int32} (B : Cx p s m meth c Z own nm bytes maxL rt n0 h0 ws) (hd : decode bytes pc = .ok (.lushr, 1)) (hp : pc + 1 = pc') (kk : G p l e R s m args below meth c n0 h0 ws Q cells slots h (mkF m pc' ls (.long ((x.toUInt64 >>> (y &&& 0x3f).toInt64.toUInt64).toInt64) :: st))) : G p l e R s m args below meth c n0 h0 ws Q cells slots h (mkF m pc ls (.int y :: .long x :: st)) := by
  subst hp
  exact G.stepX (fun T locs k n t X _ q => XS.lushr X.here B.1.1 rfl (hb B.1.2.1 hd) rfl q) kk
theorem G.ineg {x : Int32} (B : Cx p s m meth c Z own nm bytes maxL rt n0 h0 ws) (hd : decode bytes pc = .ok (.ineg, 1)) (hp : pc + 1 = pc') (kk : G p l e R s m args below meth c n0 h0 ws Q cells slots h (mkF m pc' ls (.int (-x) :: st))) : G p l e R s m args below meth c n0 h0 ws Q cells slots h (mkF m pc ls (.int x :: st)) := by
  subst hp
  exact G.stepX (fun T locs k n t X _ q => XS.ineg X.here B.1.1 rfl (hb B.1.2.1 hd) rfl q) kk
theorem G.lneg {x : Int64} (B : Cx p s m meth c Z own nm bytes maxL rt n0 h0 ws) (hd : decode bytes pc = .ok (.lneg, 1)) (hp : pc + 1 = pc') (kk : G p l e R s m args below meth c n0 h0 ws Q cells slots h (mkF m pc' ls (.long (-x) :: st))) : G p l e R s m args below meth c n0 h0 ws Q cells slots h (mkF m pc ls (.long x :: st)) := by
  subst hp
  exact G.stepX (fun T locs k n t X _ q => XS.lneg X.here B.1.1 rfl (hb B.1.2.1 hd) rfl q) kk
theorem G.i2l {x : Int32} (B : Cx p s m meth c Z own nm bytes maxL rt n0 h0 ws) (hd : decode bytes pc = .ok (.i2l, 1)) (hp : pc + 1 = pc') (kk : G p l e R s m args below meth c n0 h0 ws Q cells slots h (mkF m pc' ls (.long x.toInt64 :: st))) : G p l e R s m args below meth c n0 h0 ws Q cells slots h (mkF m pc ls (.int x :: st)) := by
  subst hp
  exact G.stepX (fun T locs k n t X _ q => XS.i2l X.here B.1.1 rfl (hb B.1.2.1 hd) rfl q) kk
theorem G.l2i {x : Int64} (B : Cx p s m meth c Z own nm bytes maxL rt n0 h0 ws) (hd : decode bytes pc = .ok (.l2i, 1)) (hp : pc + 1 = pc') (kk : G p l e R s m args below meth c n0 h0 ws Q cells slots h (mkF m pc' ls (.int x.toInt32 :: st))) : G p l e R s m args below meth c n0 h0 ws Q cells slots h (mkF m pc ls (.long x :: st)) := by
  subst hp
  exact G.stepX (fun T locs k n t X _ q => XS.l2i X.here B.1.1 rfl (hb B.1.2.1 hd) rfl q) kk
theorem G.i2b {x : Int32} (B : Cx p s m meth c Z own nm bytes maxL rt n0 h0 ws) (hd : decode bytes pc = .ok (.i2b, 1)) (hp : pc + 1 = pc') (kk : G p l e R s m args below meth c n0 h0 ws Q cells slots h (mkF m pc' ls (.int x.toInt8.toInt32 :: st))) : G p l e R s m args below meth c n0 h0 ws Q cells slots h (mkF m pc ls (.int x :: st)) := by
  subst hp
  exact G.stepX (fun T locs k n t X _ q => XS.i2b X.here B.1.1 rfl (hb B.1.2.1 hd) rfl q) kk
theorem G.i2s {x : Int32} (B : Cx p s m meth c Z own nm bytes maxL rt n0 h0 ws) (hd : decode bytes pc = .ok (.i2s, 1)) (hp : pc + 1 = pc') (kk : G p l e R s m args below meth c n0 h0 ws Q cells slots h (mkF m pc' ls (.int x.toInt16.toInt32 :: st))) : G p l e R s m args below meth c n0 h0 ws Q cells slots h (mkF m pc ls (.int x :: st)) := by
  subst hp
  exact G.stepX (fun T locs k n t X _ q => XS.i2s X.here B.1.1 rfl (hb B.1.2.1 hd) rfl q) kk
theorem G.i2c {x : Int32} (B : Cx p s m meth c Z own nm bytes maxL rt n0 h0 ws) (hd : decode bytes pc = .ok (.i2c, 1)) (hp : pc + 1 = pc') (kk : G p l e R s m args below meth c n0 h0 ws Q cells slots h (mkF m pc' ls (.int x.toUInt32.toUInt16.toUInt32.toInt32 :: st))) : G p l e R s m args below meth c n0 h0 ws Q cells slots h (mkF m pc ls (.int x :: st)) := by
  subst hp
  exact G.stepX (fun T locs k n t X _ q => XS.i2c X.here B.1.1 rfl (hb B.1.2.1 hd) rfl q) kk
theorem G.lcmp {x y : Int64} (B : Cx p s m meth c Z own nm bytes maxL rt n0 h0 ws) (hd : decode bytes pc = .ok (.lcmp, 1)) (hp : pc + 1 = pc') (kk : G p l e R s m args below meth c n0 h0 ws Q cells slots h (mkF m pc' ls (.int (lcmpW x y) :: st))) : G p l e R s m args below meth c n0 h0 ws Q cells slots h (mkF m pc ls (.long y :: .long x :: st)) := by
  subst hp
  exact G.stepX (fun T locs k n t X _ q => XS.lcmp X.here B.1.1 rfl (hb B.1.2.1 hd) rfl q) kk
theorem G.iinc {k : Nat} {cst : Int} {x z : Int32} (B : Cx p s m meth c Z own nm bytes maxL rt n0 h0 ws) (hd : decode bytes pc = .ok (.iinc k cst, 3)) (hl : ls[k]? = some (.val (.int x))) (hz : x + Int32.ofInt cst = z) (hl' : storeLocals ls k (.int z) = some ls') (hp : pc + 3 = pc') (kk : G p l e R s m args below meth c n0 h0 ws Q cells slots h (mkF m pc' ls' st)) : G p l e R s m args below meth c n0 h0 ws Q cells slots h (mkF m pc ls st) := by
  subst hp
  exact G.stepX (fun T locs k n t X _ q => XS.iinc X.here B.1.1 rfl (hb B.1.2.1 hd) hl (by rw [hz]; exact hl') q) kk
theorem G.dup {v : Value} (B : Cx p s m meth c Z own nm bytes maxL rt n0 h0 ws) (hd : decode bytes pc = .ok (.dup, 1)) (hc : v.category = 1) (hp : pc + 1 = pc') (kk : G p l e R s m args below meth c n0 h0 ws Q cells slots h (mkF m pc' ls (v :: v :: st))) : G p l e R s m args below meth c n0 h0 ws Q cells slots h (mkF m pc ls (v :: st)) := by
  subst hp
  exact G.stepX (fun T locs k n t X _ q => XS.dup X.here B.1.1 rfl (hb B.1.2.1 hd) rfl hc q) kk
theorem G.pop {v : Value} (B : Cx p s m meth c Z own nm bytes maxL rt n0 h0 ws) (hd : decode bytes pc = .ok (.pop, 1)) (hc : v.category = 1) (hp : pc + 1 = pc') (kk : G p l e R s m args below meth c n0 h0 ws Q cells slots h (mkF m pc' ls st)) : G p l e R s m args below meth c n0 h0 ws Q cells slots h (mkF m pc ls (v :: st)) := by
  subst hp
  exact G.stepX (fun T locs k n t X _ q => XS.pop X.here B.1.1 rfl (hb B.1.2.1 hd) rfl hc q) kk
theorem G.dupX1 {v w : Value} (B : Cx p s m meth c Z own nm bytes maxL rt n0 h0 ws) (hd : decode bytes pc = .ok (.dup_x1, 1)) (hc : v.category = 1) (hc' : w.category = 1) (hp : pc + 1 = pc') (kk : G p l e R s m args below meth c n0 h0 ws Q cells slots h (mkF m pc' ls (v :: w :: v :: st))) : G p l e R s m args below meth c n0 h0 ws Q cells slots h (mkF m pc ls (v :: w :: st)) := by
  subst hp
  exact G.stepX (fun T locs k n t X _ q => XS.dupX1 X.here B.1.1 rfl (hb B.1.2.1 hd) rfl hc hc' q) kk
theorem G.dup2 {v w : Value} (B : Cx p s m meth c Z own nm bytes maxL rt n0 h0 ws) (hd : decode bytes pc = .ok (.dup2, 1)) (hc : v.category = 1) (hc' : w.category = 1) (hp : pc + 1 = pc') (kk : G p l e R s m args below meth c n0 h0 ws Q cells slots h (mkF m pc' ls (v :: w :: v :: w :: st))) : G p l e R s m args below meth c n0 h0 ws Q cells slots h (mkF m pc ls (v :: w :: st)) := by
  subst hp
  exact G.stepX (fun T locs k n t X _ q => XT.dup2 X.here B.1.1 rfl (hb B.1.2.1 hd) rfl hc hc' q) kk
theorem G.goto {o : Int} (B : Cx p s m meth c Z own nm bytes maxL rt n0 h0 ws) (hd : decode bytes pc = .ok (.goto o, 3)) (ho : 0 ≤ (pc : Int) + o) (hp : ((pc : Int) + o).toNat = pc') (kk : G p l e R s m args below meth c n0 h0 ws Q cells slots h (mkF m pc' ls st)) : G p l e R s m args below meth c n0 h0 ws Q cells slots h (mkF m pc ls st) := by
  exact G.stepX (fun T locs k n t X _ q => XS.goto X.here B.1.1 rfl (pc0 := pc) (pc' := pc') rfl (hb B.1.2.1 hd) ho hp q) kk
theorem own_nlt {x y : Int32} (h : y.toInt ≤ x.toInt) : ¬ x < y := fun q => by rw [Int32.lt_iff_toInt_lt] at q; omega
theorem own_ylt {x y : Int32} (h : x.toInt < y.toInt) : x < y := Int32.lt_iff_toInt_lt.mpr h
theorem G.icmp_eq {x y : Int32} {o : Int} {pcT : Nat} (B : Cx p s m meth c Z own nm bytes maxL rt n0 h0 ws) (hd : decode bytes pc = .ok (.if_icmp .eq o, 3)) (ho : 0 ≤ (pc : Int) + o) (hT : ((pc : Int) + o).toNat = pcT) (hp : pc + 3 = pc') (k1 : x = y → G p l e R s m args below meth c n0 h0 ws Q cells slots h (mkF m pcT ls st)) (k2 : x ≠ y → G p l e R s m args below meth c n0 h0 ws Q cells slots h (mkF m pc' ls st)) : G p l e R s m args below meth c n0 h0 ws Q cells slots h (mkF m pc ls (.int y :: .int x :: st)) := by
  subst hp
  by_cases h : x = y
  · exact G.stepX (fun T locs k n t X _ q => XS.icmpYes X.here B.1.1 rfl (pc0 := pc) (pc' := pcT) rfl (hb B.1.2.1 hd) rfl (teq h).1 ho hT q) (k1 h)
  · exact G.stepX (fun T locs k n t X _ q => XS.icmpNo X.here B.1.1 rfl (hb B.1.2.1 hd) rfl (feq h).1 q) (k2 h)
theorem G.if_eq {x : Int32} {o : Int} {pcT : Nat} (B : Cx p s m meth c Z own nm bytes maxL rt n0 h0 ws) (hd : decode bytes pc = .ok (.ifCond .eq o, 3)) (ho : 0 ≤ (pc : Int) + o) (hT : ((pc : Int) + o).toNat = pcT) (hp : pc + 3 = pc') (k1 : x = 0 → G p l e R s m args below meth c n0 h0 ws Q cells slots h (mkF m pcT ls st)) (k2 : x ≠ 0 → G p l e R s m args below meth c n0 h0 ws Q cells slots h (mkF m pc' ls st)) : G p l e R s m args below meth c n0 h0 ws Q cells slots h (mkF m pc ls (.int x :: st)) := by
  subst hp
  by_cases h : x = 0
  · exact G.stepX (fun T locs k n t X _ q => XS.ifYes X.here B.1.1 rfl (pc0 := pc) (pc' := pcT) rfl (hb B.1.2.1 hd) rfl ((if0 _ _).trans (teq h).1) ho hT q) (k1 h)
  · exact G.stepX (fun T locs k n t X _ q => XS.ifNo X.here B.1.1 rfl (hb B.1.2.1 hd) rfl ((if0 _ _).trans (feq h).1) q) (k2 h)
theorem G.lcmp_eq {x y : Int64} {o : Int} {pc1 pcT : Nat} (B : Cx p s m meth c Z own nm bytes maxL rt n0 h0 ws) (hd0 : decode bytes pc = .ok (.lcmp, 1)) (hp0 : pc + 1 = pc1) (hd : decode bytes pc1 = .ok (.ifCond .eq o, 3)) (ho : 0 ≤ (pc1 : Int) + o) (hT : ((pc1 : Int) + o).toNat = pcT) (hp : pc1 + 3 = pc') (k1 : x = y → G p l e R s m args below meth c n0 h0 ws Q cells slots h (mkF m pcT ls st)) (k2 : x ≠ y → G p l e R s m args below meth c n0 h0 ws Q cells slots h (mkF m pc' ls st)) : G p l e R s m args below meth c n0 h0 ws Q cells slots h (mkF m pc ls (.long y :: .long x :: st)) :=
  G.lcmp B hd0 hp0 (G.if_eq B hd ho hT hp (fun q => k1 ((lw_eq x y).mp q)) (fun q => k2 (fun r => q ((lw_eq x y).mpr r))))
theorem G.icmp_ne {x y : Int32} {o : Int} {pcT : Nat} (B : Cx p s m meth c Z own nm bytes maxL rt n0 h0 ws) (hd : decode bytes pc = .ok (.if_icmp .ne o, 3)) (ho : 0 ≤ (pc : Int) + o) (hT : ((pc : Int) + o).toNat = pcT) (hp : pc + 3 = pc') (k1 : x ≠ y → G p l e R s m args below meth c n0 h0 ws Q cells slots h (mkF m pcT ls st)) (k2 : x = y → G p l e R s m args below meth c n0 h0 ws Q cells slots h (mkF m pc' ls st)) : G p l e R s m args below meth c n0 h0 ws Q cells slots h (mkF m pc ls (.int y :: .int x :: st)) := by
  subst hp
  by_cases h : x ≠ y
  · exact G.stepX (fun T locs k n t X _ q => XS.icmpYes X.here B.1.1 rfl (pc0 := pc) (pc' := pcT) rfl (hb B.1.2.1 hd) rfl (feq h).2 ho hT q) (k1 h)
  · replace h : x = y := Decidable.of_not_not h
    exact G.stepX (fun T locs k n t X _ q => XS.icmpNo X.here B.1.1 rfl (hb B.1.2.1 hd) rfl (teq h).2 q) (k2 h)
theorem G.if_ne {x : Int32} {o : Int} {pcT : Nat} (B : Cx p s m meth c Z own nm bytes maxL rt n0 h0 ws) (hd : decode bytes pc = .ok (.ifCond .ne o, 3)) (ho : 0 ≤ (pc : Int) + o) (hT : ((pc : Int) + o).toNat = pcT) (hp : pc + 3 = pc') (k1 : x ≠ 0 → G p l e R s m args below meth c n0 h0 ws Q cells slots h (mkF m pcT ls st)) (k2 : x = 0 → G p l e R s m args below meth c n0 h0 ws Q cells slots h (mkF m pc' ls st)) : G p l e R s m args below meth c n0 h0 ws Q cells slots h (mkF m pc ls (.int x :: st)) := by
  subst hp
  by_cases h : x ≠ 0
  · exact G.stepX (fun T locs k n t X _ q => XS.ifYes X.here B.1.1 rfl (pc0 := pc) (pc' := pcT) rfl (hb B.1.2.1 hd) rfl ((if0 _ _).trans (feq h).2) ho hT q) (k1 h)
  · replace h : x = 0 := Decidable.of_not_not h
    exact G.stepX (fun T locs k n t X _ q => XS.ifNo X.here B.1.1 rfl (hb B.1.2.1 hd) rfl ((if0 _ _).trans (teq h).2) q) (k2 h)
theorem G.lcmp_ne {x y : Int64} {o : Int} {pc1 pcT : Nat} (B : Cx p s m meth c Z own nm bytes maxL rt n0 h0 ws) (hd0 : decode bytes pc = .ok (.lcmp, 1)) (hp0 : pc + 1 = pc1) (hd : decode bytes pc1 = .ok (.ifCond .ne o, 3)) (ho : 0 ≤ (pc1 : Int) + o) (hT : ((pc1 : Int) + o).toNat = pcT) (hp : pc1 + 3 = pc') (k1 : x ≠ y → G p l e R s m args below meth c n0 h0 ws Q cells slots h (mkF m pcT ls st)) (k2 : x = y → G p l e R s m args below meth c n0 h0 ws Q cells slots h (mkF m pc' ls st)) : G p l e R s m args below meth c n0 h0 ws Q cells slots h (mkF m pc ls (.long y :: .long x :: st)) :=
  G.lcmp B hd0 hp0 (G.if_ne B hd ho hT hp (fun q => k1 (fun r => q ((lw_eq x y).mpr r))) (fun q => k2 ((lw_eq x y).mp q)))
theorem G.icmp_lt {x y : Int32} {o : Int} {pcT : Nat} (B : Cx p s m meth c Z own nm bytes maxL rt n0 h0 ws) (hd : decode bytes pc = .ok (.if_icmp .lt o, 3)) (ho : 0 ≤ (pc : Int) + o) (hT : ((pc : Int) + o).toNat = pcT) (hp : pc + 3 = pc') (k1 : x.toInt < y.toInt → G p l e R s m args below meth c n0 h0 ws Q cells slots h (mkF m pcT ls st)) (k2 : y.toInt ≤ x.toInt → G p l e R s m args below meth c n0 h0 ws Q cells slots h (mkF m pc' ls st)) : G p l e R s m args below meth c n0 h0 ws Q cells slots h (mkF m pc ls (.int y :: .int x :: st)) := by
  subst hp
  by_cases h : x.toInt < y.toInt
  · exact G.stepX (fun T locs k n t X _ q => XS.icmpYes X.here B.1.1 rfl (pc0 := pc) (pc' := pcT) rfl (hb B.1.2.1 hd) rfl (tlt (own_ylt h)).1 ho hT q) (k1 h)
  · replace h := Int.not_lt.mp h
    exact G.stepX (fun T locs k n t X _ q => XS.icmpNo X.here B.1.1 rfl (hb B.1.2.1 hd) rfl (flt (own_nlt h)).1 q) (k2 h)
theorem G.if_lt {x : Int32} {o : Int} {pcT : Nat} (B : Cx p s m meth c Z own nm bytes maxL rt n0 h0 ws) (hd : decode bytes pc = .ok (.ifCond .lt o, 3)) (ho : 0 ≤ (pc : Int) + o) (hT : ((pc : Int) + o).toNat = pcT) (hp : pc + 3 = pc') (k1 : x.toInt < 0 → G p l e R s m args below meth c n0 h0 ws Q cells slots h (mkF m pcT ls st)) (k2 : 0 ≤ x.toInt → G p l e R s m args below meth c n0 h0 ws Q cells slots h (mkF m pc' ls st)) : G p l e R s m args below meth c n0 h0 ws Q cells slots h (mkF m pc ls (.int x :: st)) := by
  subst hp
  by_cases h : x.toInt < 0
  · exact G.stepX (fun T locs k n t X _ q => XS.ifYes X.here B.1.1 rfl (pc0 := pc) (pc' := pcT) rfl (hb B.1.2.1 hd) rfl ((if0 _ _).trans (tlt (own_ylt (y := 0) h)).1) ho hT q) (k1 h)
  · replace h := Int.not_lt.mp h
    exact G.stepX (fun T locs k n t X _ q => XS.ifNo X.here B.1.1 rfl (hb B.1.2.1 hd) rfl ((if0 _ _).trans (flt (own_nlt (y := 0) h)).1) q) (k2 h)
theorem G.lcmp_lt {x y : Int64} {o : Int} {pc1 pcT : Nat} (B : Cx p s m meth c Z own nm bytes maxL rt n0 h0 ws) (hd0 : decode bytes pc = .ok (.lcmp, 1)) (hp0 : pc + 1 = pc1) (hd : decode bytes pc1 = .ok (.ifCond .lt o, 3)) (ho : 0 ≤ (pc1 : Int) + o) (hT : ((pc1 : Int) + o).toNat = pcT) (hp : pc1 + 3 = pc') (k1 : x.toInt < y.toInt → G p l e R s m args below meth c n0 h0 ws Q cells slots h (mkF m pcT ls st)) (k2 : y.toInt ≤ x.toInt → G p l e R s m args below meth c n0 h0 ws Q cells slots h (mkF m pc' ls st)) : G p l e R s m args below meth c n0 h0 ws Q cells slots h (mkF m pc ls (.long y :: .long x :: st)) :=
  G.lcmp B hd0 hp0 (G.if_lt B hd ho hT hp (fun q => k1 (by have := c_lcmp x y; omega)) (fun q => k2 (by have := c_lcmp x y; omega)))
theorem G.icmp_ge {x y : Int32} {o : Int} {pcT : Nat} (B : Cx p s m meth c Z own nm bytes maxL rt n0 h0 ws) (hd : decode bytes pc = .ok (.if_icmp .ge o, 3)) (ho : 0 ≤ (pc : Int) + o) (hT : ((pc : Int) + o).toNat = pcT) (hp : pc + 3 = pc') (k1 : y.toInt ≤ x.toInt → G p l e R s m args below meth c n0 h0 ws Q cells slots h (mkF m pcT ls st)) (k2 : x.toInt < y.toInt → G p l e R s m args below meth c n0 h0 ws Q cells slots h (mkF m pc' ls st)) : G p l e R s m args below meth c n0 h0 ws Q cells slots h (mkF m pc ls (.int y :: .int x :: st)) := by
  subst hp
  by_cases h : y.toInt ≤ x.toInt
  · exact G.stepX (fun T locs k n t X _ q => XS.icmpYes X.here B.1.1 rfl (pc0 := pc) (pc' := pcT) rfl (hb B.1.2.1 hd) rfl (flt (own_nlt h)).2.1 ho hT q) (k1 h)
  · replace h := Int.not_le.mp h
    exact G.stepX (fun T locs k n t X _ q => XS.icmpNo X.here B.1.1 rfl (hb B.1.2.1 hd) rfl (tlt (own_ylt h)).2.1 q) (k2 h)
theorem G.if_ge {x : Int32} {o : Int} {pcT : Nat} (B : Cx p s m meth c Z own nm bytes maxL rt n0 h0 ws) (hd : decode bytes pc = .ok (.ifCond .ge o, 3)) (ho : 0 ≤ (pc : Int) + o) (hT : ((pc : Int) + o).toNat = pcT) (hp : pc + 3 = pc') (k1 : 0 ≤ x.toInt → G p l e R s m args below meth c n0 h0 ws Q cells slots h (mkF m pcT ls st)) (k2 : x.toInt < 0 → G p l e R s m args below meth c n0 h0 ws Q cells slots h (mkF m pc' ls st)) : G p l e R s m args below meth c n0 h0 ws Q cells slots h (mkF m pc ls (.int x :: st)) := by
  subst hp
  by_cases h : 0 ≤ x.toInt
  · exact G.stepX (fun T locs k n t X _ q => XS.ifYes X.here B.1.1 rfl (pc0 := pc) (pc' := pcT) rfl (hb B.1.2.1 hd) rfl ((if0 _ _).trans (flt (own_nlt (y := 0) h)).2.1) ho hT q) (k1 h)
  · replace h := Int.not_le.mp h
    exact G.stepX (fun T locs k n t X _ q => XS.ifNo X.here B.1.1 rfl (hb B.1.2.1 hd) rfl ((if0 _ _).trans (tlt (own_ylt (y := 0) h)).2.1) q) (k2 h)
theorem G.lcmp_ge {x y : Int64} {o : Int} {pc1 pcT : Nat} (B : Cx p s m meth c Z own nm bytes maxL rt n0 h0 ws) (hd0 : decode bytes pc = .ok (.lcmp, 1)) (hp0 : pc + 1 = pc1) (hd : decode bytes pc1 = .ok (.ifCond .ge o, 3)) (ho : 0 ≤ (pc1 : Int) + o) (hT : ((pc1 : Int) + o).toNat = pcT) (hp : pc1 + 3 = pc') (k1 : y.toInt ≤ x.toInt → G p l e R s m args below meth c n0 h0 ws Q cells slots h (mkF m pcT ls st)) (k2 : x.toInt < y.toInt → G p l e R s m args below meth c n0 h0 ws Q cells slots h (mkF m pc' ls st)) : G p l e R s m args below meth c n0 h0 ws Q cells slots h (mkF m pc ls (.long y :: .long x :: st)) :=
  G.lcmp B hd0 hp0 (G.if_ge B hd ho hT hp (fun q => k1 (by have := c_lcmp x y; omega)) (fun q => k2 (by have := c_lcmp x y; omega)))
theorem G.icmp_gt {x y : Int32} {o : Int} {pcT : Nat} (B : Cx p s m meth c Z own nm bytes maxL rt n0 h0 ws) (hd : decode bytes pc = .ok (.if_icmp .gt o, 3)) (ho : 0 ≤ (pc : Int) + o) (hT : ((pc : Int) + o).toNat = pcT) (hp : pc + 3 = pc') (k1 : y.toInt < x.toInt → G p l e R s m args below meth c n0 h0 ws Q cells slots h (mkF m pcT ls st)) (k2 : x.toInt ≤ y.toInt → G p l e R s m args below meth c n0 h0 ws Q cells slots h (mkF m pc' ls st)) : G p l e R s m args below meth c n0 h0 ws Q cells slots h (mkF m pc ls (.int y :: .int x :: st)) := by
  subst hp
  by_cases h : y.toInt < x.toInt
  · exact G.stepX (fun T locs k n t X _ q => XS.icmpYes X.here B.1.1 rfl (pc0 := pc) (pc' := pcT) rfl (hb B.1.2.1 hd) rfl (tlt (own_ylt h)).2.2.1 ho hT q) (k1 h)
  · replace h := Int.not_lt.mp h
    exact G.stepX (fun T locs k n t X _ q => XS.icmpNo X.here B.1.1 rfl (hb B.1.2.1 hd) rfl (flt (own_nlt h)).2.2.1 q) (k2 h)
theorem G.if_gt {x : Int32} {o : Int} {pcT : Nat} (B : Cx p s m meth c Z own nm bytes maxL rt n0 h0 ws) (hd : decode bytes pc = .ok (.ifCond .gt o, 3)) (ho : 0 ≤ (pc : Int) + o) (hT : ((pc : Int) + o).toNat = pcT) (hp : pc + 3 = pc') (k1 : 0 < x.toInt → G p l e R s m args below meth c n0 h0 ws Q cells slots h (mkF m pcT ls st)) (k2 : x.toInt ≤ 0 → G p l e R s m args below meth c n0 h0 ws Q cells slots h (mkF m pc' ls st)) : G p l e R s m args below meth c n0 h0 ws Q cells slots h (mkF m pc ls (.int x :: st)) := by
  subst hp
  by_cases h : 0 < x.toInt
  · exact G.stepX (fun T locs k n t X _ q => XS.ifYes X.here B.1.1 rfl (pc0 := pc) (pc' := pcT) rfl (hb B.1.2.1 hd) rfl ((if0 _ _).trans (tlt (own_ylt (x := 0) h)).2.2.1) ho hT q) (k1 h)
  · replace h := Int.not_lt.mp h
    exact G.stepX (fun T locs k n t X _ q => XS.ifNo X.here B.1.1 rfl (hb B.1.2.1 hd) rfl ((if0 _ _).trans (flt (own_nlt (x := 0) h)).2.2.1) q) (k2 h)
theorem G.lcmp_gt {x y : Int64} {o : Int} {pc1 pcT : Nat} (B : Cx p s m meth c Z own nm bytes maxL rt n0 h0 ws) (hd0 : decode bytes pc = .ok (.lcmp, 1)) (hp0 : pc + 1 = pc1) (hd : decode bytes pc1 = .ok (.ifCond .gt o, 3)) (ho : 0 ≤ (pc1 : Int) + o) (hT : ((pc1 : Int) + o).toNat = pcT) (hp : pc1 + 3 = pc') (k1 : y.toInt < x.toInt → G p l e R s m args below meth c n0 h0 ws Q cells slots h (mkF m pcT ls st)) (k2 : x.toInt ≤ y.toInt → G p l e R s m args below meth c n0 h0 ws Q cells slots h (mkF m pc' ls st)) : G p l e R s m args below meth c n0 h0 ws Q cells slots h (mkF m pc ls (.long y :: .long x :: st)) :=
  G.lcmp B hd0 hp0 (G.if_gt B hd ho hT hp (fun q => k1 (by have := c_lcmp x y; omega)) (fun q => k2 (by have := c_lcmp x y; omega)))
theorem G.icmp_le {x y : Int32} {o : Int} {pcT : Nat} (B : Cx p s m meth c Z own nm bytes maxL rt n0 h0 ws) (hd : decode bytes pc = .ok (.if_icmp .le o, 3)) (ho : 0 ≤ (pc : Int) + o) (hT : ((pc : Int) + o).toNat = pcT) (hp : pc + 3 = pc') (k1 : x.toInt ≤ y.toInt → G p l e R s m args below meth c n0 h0 ws Q cells slots h (mkF m pcT ls st)) (k2 : y.toInt < x.toInt → G p l e R s m args below meth c n0 h0 ws Q cells slots h (mkF m pc' ls st)) : G p l e R s m args below meth c n0 h0 ws Q cells slots h (mkF m pc ls (.int y :: .int x :: st)) := by
  subst hp
  by_cases h : x.toInt ≤ y.toInt
  · exact G.stepX (fun T locs k n t X _ q => XS.icmpYes X.here B.1.1 rfl (pc0 := pc) (pc' := pcT) rfl (hb B.1.2.1 hd) rfl (flt (own_nlt h)).2.2.2 ho hT q) (k1 h)
  · replace h := Int.not_le.mp h
    exact G.stepX (fun T locs k n t X _ q => XS.icmpNo X.here B.1.1 rfl (hb B.1.2.1 hd) rfl (tlt (own_ylt h)).2.2.2 q) (k2 h)
theorem G.if_le {x : Int32} {o : Int} {pcT : Nat} (B : Cx p s m meth c Z own nm bytes maxL rt n0 h0 ws) (hd : decode bytes pc = .ok (.ifCond .le o, 3)) (ho : 0 ≤ (pc : Int) + o) (hT : ((pc : Int) + o).toNat = pcT) (hp : pc + 3 = pc') (k1 : x.toInt ≤ 0 → G p l e R s m args below meth c n0 h0 ws Q cells slots h (mkF m pcT ls st)) (k2 : 0 < x.toInt → G p l e R s m args below meth c n0 h0 ws Q cells slots h (mkF m pc' ls st)) : G p l e R s m args below meth c n0 h0 ws Q cells slots h (mkF m pc ls (.int x :: st)) := by
  subst hp
  by_cases h : x.toInt ≤ 0
  · exact G.stepX (fun T locs k n t X _ q => XS.ifYes X.here B.1.1 rfl (pc0 := pc) (pc' := pcT) rfl (hb B.1.2.1 hd) rfl ((if0 _ _).trans (flt (own_nlt (x := 0) h)).2.2.2) ho hT q) (k1 h)
  · replace h := Int.not_le.mp h
    exact G.stepX (fun T locs k n t X _ q => XS.ifNo X.here B.1.1 rfl (hb B.1.2.1 hd) rfl ((if0 _ _).trans (tlt (own_ylt (x := 0) h)).2.2.2) q) (k2 h)
theorem G.lcmp_le {x y : Int64} {o : Int} {pc1 pcT : Nat} (B : Cx p s m meth c Z own nm bytes maxL rt n0 h0 ws) (hd0 : decode bytes pc = .ok (.lcmp, 1)) (hp0 : pc + 1 = pc1) (hd : decode bytes pc1 = .ok (.ifCond .le o, 3)) (ho : 0 ≤ (pc1 : Int) + o) (hT : ((pc1 : Int) + o).toNat = pcT) (hp : pc1 + 3 = pc') (k1 : x.toInt ≤ y.toInt → G p l e R s m args below meth c n0 h0 ws Q cells slots h (mkF m pcT ls st)) (k2 : y.toInt < x.toInt → G p l e R s m args below meth c n0 h0 ws Q cells slots h (mkF m pc' ls st)) : G p l e R s m args below meth c n0 h0 ws Q cells slots h (mkF m pc ls (.long y :: .long x :: st)) :=
  G.lcmp B hd0 hp0 (G.if_le B hd ho hT hp (fun q => k1 (by have := c_lcmp x y; omega)) (fun q => k2 (by have := c_lcmp x y; omega)))
theorem G.ifnull_t {b : Addr} {o : Int} {pcT : Nat} (B : Cx p s m meth c Z own nm bytes maxL rt n0 h0 ws) (hd : decode bytes pc = .ok (.ifnull o, 3)) (ho : 0 ≤ (pc : Int) + o) (hT : ((pc : Int) + o).toNat = pcT) (kk : G p l e R s m args below meth c n0 h0 ws Q cells slots h (mkF m pcT ls st)) : G p l e R s m args below meth c n0 h0 ws Q cells slots h (mkF m pc ls (.null :: st)) :=
  G.stepX (fun T locs k n t X _ q => XS.ifnullYes X.here B.1.1 rfl (pc0 := pc) (pc' := pcT) rfl (hb B.1.2.1 hd) rfl ho hT q) kk
theorem G.ifnull_f {b : Addr} {o : Int} (B : Cx p s m meth c Z own nm bytes maxL rt n0 h0 ws) (hd : decode bytes pc = .ok (.ifnull o, 3)) (hp : pc + 3 = pc') (kk : G p l e R s m args below meth c n0 h0 ws Q cells slots h (mkF m pc' ls st)) : G p l e R s m args below meth c n0 h0 ws Q cells slots h (mkF m pc ls (.ref b :: st)) := by
  subst hp
  exact G.stepX (fun T locs k n t X _ q => XS.ifnullNo X.here B.1.1 rfl (hb B.1.2.1 hd) rfl q) kk
theorem G.ifnonnull_t {b : Addr} {o : Int} {pcT : Nat} (B : Cx p s m meth c Z own nm bytes maxL rt n0 h0 ws) (hd : decode bytes pc = .ok (.ifnonnull o, 3)) (ho : 0 ≤ (pc : Int) + o) (hT : ((pc : Int) + o).toNat = pcT) (kk : G p l e R s m args below meth c n0 h0 ws Q cells slots h (mkF m pcT ls st)) : G p l e R s m args below meth c n0 h0 ws Q cells slots h (mkF m pc ls (.ref b :: st)) :=
  G.stepX (fun T locs k n t X _ q => XS.ifnonnullYes X.here B.1.1 rfl (pc0 := pc) (pc' := pcT) rfl (hb B.1.2.1 hd) rfl ho hT q) kk
theorem G.ifnonnull_f {b : Addr} {o : Int} (B : Cx p s m meth c Z own nm bytes maxL rt n0 h0 ws) (hd : decode bytes pc = .ok (.ifnonnull o, 3)) (hp : pc + 3 = pc') (kk : G p l e R s m args below meth c n0 h0 ws Q cells slots h (mkF m pc' ls st)) : G p l e R s m args below meth c n0 h0 ws Q cells slots h (mkF m pc ls (.null :: st)) := by
  subst hp
  exact G.stepX (fun T locs k n t X _ q => XS.ifnonnullNo X.here B.1.1 rfl (hb B.1.2.1 hd) rfl q) kk
theorem G.ldc2 {index : Nat} {v : Int64} (B : Cx p s m meth c Z own nm bytes maxL rt n0 h0 ws) (w : (Jvm.Cond.constantLong own index v).before a0 Z = true) (hd : decode bytes pc = .ok (.ldc2_w index, 3)) (hp : pc + 3 = pc') (kk : G p l e R s m args below meth c n0 h0 ws Q cells slots h (mkF m pc' ls (.long v :: st))) : G p l e R s m args below meth c n0 h0 ws Q cells slots h (mkF m pc ls st) := by
  subst hp
  exact G.stepX (fun T locs k n t X _ q => X.ldc2Long B.1.1 B.1.2.2.2.1 (mvT B.1.2.2.2.2 w) (g := mkF m pc ls st) rfl (hb B.1.2.1 hd) t q) kk
theorem G.ldcI {index : Nat} {v : Int32} (B : Cx p s m meth c Z own nm bytes maxL rt n0 h0 ws) (w : (Jvm.Cond.constant own index v).before a0 Z = true) (hd : decode bytes pc = .ok (.ldc index, 2)) (hp : pc + 2 = pc') (kk : G p l e R s m args below meth c n0 h0 ws Q cells slots h (mkF m pc' ls (.int v :: st))) : G p l e R s m args below meth c n0 h0 ws Q cells slots h (mkF m pc ls st) := by
  subst hp
  exact G.stepX (fun T locs k n t X _ q => X.ldcInt B.1.1 B.1.2.2.2.1 (mvT B.1.2.2.2.2 w) (g := mkF m pc ls st) rfl (hb B.1.2.1 hd) t q) kk
theorem G.ldcW {index : Nat} {v : Int32} (B : Cx p s m meth c Z own nm bytes maxL rt n0 h0 ws) (w : (Jvm.Cond.constant own index v).before a0 Z = true) (hd : decode bytes pc = .ok (.ldc_w index, 3)) (hp : pc + 3 = pc') (kk : G p l e R s m args below meth c n0 h0 ws Q cells slots h (mkF m pc' ls (.int v :: st))) : G p l e R s m args below meth c n0 h0 ws Q cells slots h (mkF m pc ls st) := by
  subst hp
  exact G.stepX (fun T locs k n t X _ q => X.ldcwInt B.1.1 B.1.2.2.2.1 (mvT B.1.2.2.2.2 w) (g := mkF m pc ls st) rfl (hb B.1.2.1 hd) t q) kk
theorem G.retV {Q' : Heap → Prop} (B : Cx p s m meth c Z own nm bytes maxL none n0 h0 ws) (hd : decode bytes pc = .ok (.return_, 1)) (hc : cells ≤ R.cells) (hs : slots ≤ R.slots) (hQ : Q' h) : G p l e R s m args below meth c n0 h0 ws (RV Q') cells slots h (mkF m pc ls []) :=
  G.out (v := none) B (fun _ => rfl) hc hs ⟨rfl, hQ⟩ (fun T locs k n fs X hr => X.returnOut B.1.1 B.2.1 (hb B.1.2.1 hd) hr)
theorem G.retI {Q' : Int32 → Heap → Prop} {z : Int32} (B : Cx p s m meth c Z own nm bytes maxL (some .int) n0 h0 ws) (hd : decode bytes pc = .ok (.ireturn, 1)) (hc : cells ≤ R.cells) (hs : slots ≤ R.slots) (hQ : Q' z h) : G p l e R s m args below meth c n0 h0 ws (RI Q') cells slots h (mkF m pc ls (.int z :: st)) :=
  G.out (v := some (.int z)) B (fun q => nomatch q) hc hs ⟨z, rfl, hQ⟩ (fun T locs k n fs X hr => Jvm.RoadKit.retI X B.1.1 B.2.1 (hb B.1.2.1 hd) hr)
theorem G.retN {Q' : Int32 → Heap → Prop} {z : Int32} {t : FieldType} (B : Cx p s m meth c Z own nm bytes maxL (some t) n0 h0 ws) (ht : t = .boolean ∨ t = .byte ∨ t = .char ∨ t = .short) (hd : decode bytes pc = .ok (.ireturn, 1)) (hc : cells ≤ R.cells) (hs : slots ≤ R.slots) (hQ : Q' (nar t z) h) : G p l e R s m args below meth c n0 h0 ws (RI Q') cells slots h (mkF m pc ls (.int z :: st)) :=
  G.out (v := some (.int (nar t z))) B (fun q => nomatch q) hc hs ⟨_, rfl, hQ⟩ (fun T locs k n fs X hr => Jvm.RoadKit.retN X B.1.1 B.2.1 ht (hb B.1.2.1 hd) hr)
theorem G.retZ {Q' : Int32 → Heap → Prop} {z : Int32} (B : Cx p s m meth c Z own nm bytes maxL (some .boolean) n0 h0 ws) (hd : decode bytes pc = .ok (.ireturn, 1)) (hc : cells ≤ R.cells) (hs : slots ≤ R.slots) (hz : z = 0 ∨ z = 1) (hQ : Q' z h) : G p l e R s m args below meth c n0 h0 ws (RI Q') cells slots h (mkF m pc ls (.int z :: st)) :=
  G.retN B (Or.inl rfl) hd hc hs (by rcases hz with rfl | rfl <;> exact hQ)
theorem own_retJ {T : State} {locs : List Loc} {Ls : Array Slot} {w : Int64} {rest : List Value} (X : Stand p l e R s m args below meth c T locs cells slots) (hx : p.tables.exec = Jvm.exec) (hret : meth.sig.returnType = some .long) (hd : decode c.code pc = .ok (.lreturn, 1)) {fs : List Frame}
    (hr : ∀ (f : JFrame) (acts : List Action), f.method = m → f.locked = none → f.entered = [] → (doReturn e (T.setTop f) acts (some (.long w))).1 = T.setFrames fs) : Steps p.tables e below (T.setTop (mkF m pc Ls (.long w :: rest))) (T.setFrames fs) := by
  have hm' : T.vm.method? m = some meth := X.method'
  show Steps p.tables e below (T.setTop { method := m, pc := pc, locals := Ls, stack := _ :: rest, locked := none }) _
  jvm_step X.here [X.here.top, hx, hd, hm', hret, narrow]
  first | (intro acts; rw [hr _ acts rfl rfl rfl]) | rw [hr _ _ rfl rfl rfl]
  exact Steps.refl _
theorem G.retJ {Q' : Int64 → Heap → Prop} {z : Int64} (B : Cx p s m meth c Z own nm bytes maxL (some .long) n0 h0 ws) (hd : decode bytes pc = .ok (.lreturn, 1)) (hc : cells ≤ R.cells) (hs : slots ≤ R.slots) (hQ : Q' z h) : G p l e R s m args below meth c n0 h0 ws (RJ Q') cells slots h (mkF m pc ls (.long z :: st)) :=
  G.out (v := some (.long z)) B (fun q => nomatch q) hc hs ⟨z, rfl, hQ⟩ (fun T locs k n fs X hr => own_retJ X B.1.1 B.2.1 (hb B.1.2.1 hd) hr)
theorem own_retA {T : State} {locs : List Loc} {Ls : Array Slot} {w : Addr} {rest : List Value} {t : FieldType} (X : Stand p l e R s m args below meth c T locs cells slots) (hx : p.tables.exec = Jvm.exec) (hret : meth.sig.returnType = some t) (ht : t.isReference = true) (hd : decode c.code pc = .ok (.areturn, 1)) {fs : List Frame}
    (hr : ∀ (f : JFrame) (acts : List Action), f.method = m → f.locked = none → f.entered = [] → (doReturn e (T.setTop f) acts (some (.ref w))).1 = T.setFrames fs) : Steps p.tables e below (T.setTop (mkF m pc Ls (.ref w :: rest))) (T.setFrames fs) := by
  have hm' : T.vm.method? m = some meth := X.method'
  show Steps p.tables e below (T.setTop { method := m, pc := pc, locals := Ls, stack := _ :: rest, locked := none }) _
  jvm_step X.here [X.here.top, hx, hd, hm', hret, Value.isRef, ht]
  first | (intro acts; rw [hr _ acts rfl rfl rfl]) | rw [hr _ _ rfl rfl rfl]
  exact Steps.refl _
theorem G.retA {Q' : Addr → Heap → Prop} {z : Addr} {t : FieldType} (B : Cx p s m meth c Z own nm bytes maxL (some t) n0 h0 ws) (ht : t.isReference = true) (hd : decode bytes pc = .ok (.areturn, 1)) (hc : cells ≤ R.cells) (hs : slots ≤ R.slots) (hQ : Q' z h) : G p l e R s m args below meth c n0 h0 ws (RA Q') cells slots h (mkF m pc ls (.ref z :: st)) :=
  G.out (v := some (.ref z)) B (fun q => nomatch q) hc hs ⟨z, rfl, hQ⟩ (fun T locs k n fs X hr => own_retA X B.1.1 B.2.1 ht (hb B.1.2.1 hd) hr)
theorem G.getF {R0 O n d host : String} {index : Nat} {a : Addr} {v : Value} (B : Cx p s m meth c Z own nm bytes maxL rt n0 h0 ws) (w : (Jvm.Cond.fieldLink own index R0 n d).before a0 Z = true ∨ (Jvm.Cond.fieldLinkNest own index R0 n d host).before a0 Z = true) (via : Via Z R0 O n d) (Fd : Fld Z h a O n d v) (hd : decode bytes pc = .ok (.getfield index, 3)) (hp : pc + 3 = pc') (kk : G p l e R s m args below meth c n0 h0 ws Q cells slots h (mkF m pc' ls (v :: st))) : G p l e R s m args below meth c n0 h0 ws Q cells slots h (mkF m pc ls (.ref a :: st)) := by
  subst hp
  exact G.stepT (fun T locs k n X eT => Jvm.RoadKit.getF X B.1.1 B.1.2.2.2.2 B.1.2.2.2.1 w via eT Fd (g := (mkF m pc ls (.ref a :: st))) rfl rfl (hb B.1.2.1 hd)) kk
theorem G.putF {R0 O n d C : String} {index kq : Nat} {ty : FieldType} {a : Addr} {v v' old : Value} (B : Cx p s m meth c Z own nm bytes maxL rt n0 h0 ws) (w : (Jvm.Cond.fieldLink own index R0 n d).before a0 Z = true) (via : Via Z R0 O n d) (Fd : Fld Z h a O n d old) (E : Exa Z h a C) (L : (Jvm.Cond.lays C O n d).before a0 Z = true ∨ ((Jvm.Cond.laysFinal C O n d).before a0 Z = true ∧ own = O ∧ nm = "<init>")) (wi : (Jvm.Cond.instantiable C kq).before a0 Z = true)
    (hty : parseFieldDescriptor d = some ty) (hn : narrow ty v = v') (hf : fits ty v' = true) (ha : a ∈ ws ∨ h0.size ≤ a) (hd : decode bytes pc = .ok (.putfield index, 3)) (hp : pc + 3 = pc') (kk : ∀ h', Wr h h' a (Jvm.RoadKit.slotOf Z O n d) v' → G p l e R s m args below meth c n0 h0 ws Q cells slots h' (mkF m pc' ls st)) : G p l e R s m args below meth c n0 h0 ws Q cells slots h (mkF m pc ls (v :: .ref a :: st)) := by
  subst hp
  exact G.wr B ha (fun T locs k n X eT => Jvm.RoadKit.putFN X B.1.1 B.1.2.2.2.2 B.1.2.2.2.1 w via eT Fd E (L.imp id (fun q => ⟨q.1, q.2.1, B.2.2.2.1.trans q.2.2⟩)) wi hty hn hf (g := (mkF m pc ls (v :: .ref a :: st))) rfl rfl (hb B.1.2.1 hd)) kk
theorem G.newO {C : String} {index q : Nat} (B : Cx p s m meth c Z own nm bytes maxL rt n0 h0 ws) (w : (Jvm.Cond.classLink own index C).before a0 Z = true) (wi : (Jvm.Cond.instantiable C q).before a0 Z = true) (wz : (Jvm.Cond.initialized C).before a0 Z = true) (hd : decode bytes pc = .ok (.new index, 3)) (hp : pc + 3 = pc') (hc : cells + 1 ≤ R.cells) (hl : slots + q ≤ R.slots)
    (kk : ∀ h' a, a = h.size → h0.size ≤ a → Keep h h' [] → a < h'.size → Exa Z h' a C → (∀ {O n d : String} {ty : FieldType}, Laid Z a0 C O n d → parseFieldDescriptor d = some ty → Fld Z h' a O n d (defaultValue ty)) → G p l e R s m args below meth c n0 h0 ws Q (cells + 1) (slots + q) h' (mkF m pc' ls (.ref a :: st))) : G p l e R s m args below meth c n0 h0 ws Q cells slots h (mkF m pc ls st) := fun T locs k n X hk hn eT N K => by
  subst hp
  obtain ⟨T', h', X', e', E', A', D', -, stp⟩ := Jvm.RoadKit.newO X B.1.1 B.1.2.2.2.2 B.1.2.2.2.1 w wi wz eT (g := (mkF m pc ls st)) rfl (hb B.1.2.1 hd) (Nat.le_trans (Nat.add_le_add_right hk 1) hc) (Nat.le_trans (Nat.add_le_add_right hn q) hl)
  obtain ⟨U, v, L, hs, r⟩ := kk h' h.size rfl K.1 ((Keep.refl h []).ext E') A'.lt A' D' T' locs (k + 1) (n + q) X' (Nat.add_le_add_right hk 1) (Nat.add_le_add_right hn q) e' N (K.ext E')
  exact ⟨U, v, L, stp U hs, r⟩
theorem G.initO {index W : Nat} {a : Addr} (B : Cx p s m meth c Z own nm bytes maxL rt n0 h0 ws) (w1 : (Jvm.Cond.methodLink own index Lib.objectInit).before a0 Z = true) (w2 : (Jvm.Cond.instanceMethod Lib.objectInit).before a0 Z = true) (w3 : (Jvm.Cond.code Lib.objectInit ⟨#[0xb1]⟩ 1 none).before a0 Z = true) (hsz : ls.size = maxL) (hd : decode bytes pc = .ok (.invokespecial index, 3)) (hp : pc + 3 = pc') (hf : 1 ≤ R.frames) (hW : 2 * 0 + (st.map fun v => v.category).sum ≤ W) (hl : W + 12 ≤ R.locals) (kk : G p l e R s m args below meth c n0 h0 ws Q cells slots h (mkF m pc' ls st)) : G p l e R s m args below meth c n0 h0 ws Q cells slots h (mkF m pc ls (.ref a :: st)) := by
  subst hp
  exact G.stepT (fun T locs k n X eT => Jvm.RoadKit.initO X B.1.1 B.1.2.2.2.2 B.1.2.2.2.1 w1 w2 w3 eT (g := (mkF m pc ls (.ref a :: st))) rfl (hsz.trans B.1.2.2.1.symm) rfl (hb B.1.2.1 hd) hf (W := W) hW hl) kk
/-- an array of longs, of length n, its elements f -/
def ArJ (Z : State) (h : Heap) (a : Addr) (n : Nat) (f : Nat → Int64) : Prop := ∃ cl : Cell, Arr Z h a cl .long ∧ cl.slots.size = n ∧ n < 2147483648 ∧ ∀ i, i < n → cl.slots[i]? = some (.long (f i))
/-- an array of ints, bytes, booleans, chars or shorts -/
def ArI (Z : State) (h : Heap) (a : Addr) (ty : FieldType) (n : Nat) (f : Nat → Int32) : Prop := ∃ cl : Cell, Arr Z h a cl ty ∧ cl.slots.size = n ∧ n < 2147483648 ∧ ∀ i, i < n → cl.slots[i]? = some (.int (f i))
/-- f with v at the place j -/
def up {α : Type} (f : Nat → α) (j : Nat) (v : α) : Nat → α := fun i => if i = j then v else f i
theorem ArJ.lt {a : Addr} {n : Nat} {f : Nat → Int64} (A : ArJ Z h a n f) : a < h.size := by obtain ⟨cl, A, -⟩ := A; exact A.lt
theorem ArI.lt {a : Addr} {ty : FieldType} {n : Nat} {f : Nat → Int32} (A : ArI Z h a ty n f) : a < h.size := by obtain ⟨cl, A, -⟩ := A; exact A.lt
theorem ArJ.keep {a : Addr} {n : Nat} {f : Nat → Int64} {h' : Heap} {vs : List Addr} (A : ArJ Z h a n f) (K : Keep h h' vs) (q : a ∉ vs) : ArJ Z h' a n f := by obtain ⟨cl, A, r⟩ := A; exact ⟨cl, ⟨K.2.1 a cl A.1 q, A.2⟩, r⟩
theorem ArI.keep {a : Addr} {ty : FieldType} {n : Nat} {f : Nat → Int32} {h' : Heap} {vs : List Addr} (A : ArI Z h a ty n f) (K : Keep h h' vs) (q : a ∉ vs) : ArI Z h' a ty n f := by obtain ⟨cl, A, r⟩ := A; exact ⟨cl, ⟨K.2.1 a cl A.1 q, A.2⟩, r⟩
theorem own_idx {j : Int32} {i n : Nat} (hj : j.toInt = (i : Int)) (hi : i < n) : ¬ (j < 0 ∨ n ≤ j.toNatClampNeg) ∧ j.toNatClampNeg = i := by
  have h1 : j.toNatClampNeg = i := by show j.toInt.toNat = i; omega
  refine ⟨?_, h1⟩
  rintro (q | q)
  · rw [Int32.lt_iff_toInt_lt, Int32.toInt_zero] at q; omega
  · omega
theorem own_set {a : Addr} {cl : Cell} {ty : FieldType} {h' : Heap} {i n : Nat} {v : Value} {g : Nat → Value} (A : Arr Z h a cl ty) (hs : cl.slots.size = n) (hv : ∀ i, i < n → cl.slots[i]? = some (g i)) (W : Wr h h' a i v) : ∃ cl' : Cell, Arr Z h' a cl' ty ∧ cl'.slots.size = n ∧ ∀ k, k < n → cl'.slots[k]? = some (if k = i then v else g k) := by
  obtain ⟨cb', q1, q2, q3, q4, q5, q6, q7⟩ := wr_at W A.1
  obtain ⟨r1, r2, r3⟩ := q7 rfl
  subst r1
  refine ⟨_, A.same W, q4.trans hs, fun k hk => ?_⟩
  by_cases e : k = i
  · subst e; rw [if_pos rfl]; exact r2
  · rw [if_neg e, q6 k e]; exact hv k hk
theorem ArJ.set {a : Addr} {n : Nat} {f : Nat → Int64} {h' : Heap} {i : Nat} {v : Int64} (A : ArJ Z h a n f) (W : Wr h h' a i (.long v)) : ArJ Z h' a n (up f i v) := by
  obtain ⟨cl, A, hs, hn, hv⟩ := A
  obtain ⟨cl', A', hs', hv'⟩ := own_set (g := fun i => .long (f i)) A hs hv W
  refine ⟨cl', A', hs', hn, fun k hk => ?_⟩
  rw [hv' k hk]; unfold up; split <;> rfl
theorem ArI.set {a : Addr} {ty : FieldType} {n : Nat} {f : Nat → Int32} {h' : Heap} {i : Nat} {v : Int32} (A : ArI Z h a ty n f) (W : Wr h h' a i (.int v)) : ArI Z h' a ty n (up f i v) := by
  obtain ⟨cl, A, hs, hn, hv⟩ := A
  obtain ⟨cl', A', hs', hv'⟩ := own_set (g := fun i => .int (f i)) A hs hv W
  refine ⟨cl', A', hs', hn, fun k hk => ?_⟩
  rw [hv' k hk]; unfold up; split <;> rfl
theorem ArJ.congr {a : Addr} {n : Nat} {f g : Nat → Int64} (A : ArJ Z h a n f) (q : ∀ i, i < n → f i = g i) : ArJ Z h a n g := by
  obtain ⟨cl, A, hs, hn, hv⟩ := A
  exact ⟨cl, A, hs, hn, fun i hi => by rw [← q i hi]; exact hv i hi⟩
theorem ArI.congr {a : Addr} {ty : FieldType} {n : Nat} {f g : Nat → Int32} (A : ArI Z h a ty n f) (q : ∀ i, i < n → f i = g i) : ArI Z h a ty n g := by
  obtain ⟨cl, A, hs, hn, hv⟩ := A
  exact ⟨cl, A, hs, hn, fun i hi => by rw [← q i hi]; exact hv i hi⟩
theorem G.stJ {a : Addr} {j : Int32} {i n : Nat} {f : Nat → Int64} {x : Int64} (B : Cx p s m meth c Z own nm bytes maxL rt n0 h0 ws) (A : ArJ Z h a n f) (hj : j.toInt = (i : Int)) (hi : i < n) (ha : a ∈ ws ∨ h0.size ≤ a) (hd : decode bytes pc = .ok (.lastore, 1)) (hp : pc + 1 = pc') (kk : ∀ h', Keep h h' [a] → ArJ Z h' a n (up f i x) → G p l e R s m args below meth c n0 h0 ws Q cells slots h' (mkF m pc' ls st)) : G p l e R s m args below meth c n0 h0 ws Q cells slots h (mkF m pc ls (.long x :: .int j :: .ref a :: st)) := by
  subst hp
  have A0 := A
  obtain ⟨cl, A, hs, hn, hv⟩ := A
  obtain ⟨hin, hjn⟩ := own_idx hj (hs.symm ▸ hi : i < cl.slots.size)
  exact G.wr B ha (fun T locs k n X eT => Jvm.RoadKit.stJ X B.1.1 B.1.2.2.2.2 eT A (j := j) hin (g := (mkF m pc ls (.long x :: .int j :: .ref a :: st))) rfl rfl (hb B.1.2.1 hd)) (fun h' W => kk h' (Keep.of_wr W) (A0.set (hjn ▸ W)))
theorem G.stI {a : Addr} {j : Int32} {i n : Nat} {f : Nat → Int32} {x : Int32} (B : Cx p s m meth c Z own nm bytes maxL rt n0 h0 ws) (A : ArI Z h a .int n f) (hj : j.toInt = (i : Int)) (hi : i < n) (ha : a ∈ ws ∨ h0.size ≤ a) (hd : decode bytes pc = .ok (.iastore, 1)) (hp : pc + 1 = pc') (kk : ∀ h', Keep h h' [a] → ArI Z h' a .int n (up f i x) → G p l e R s m args below meth c n0 h0 ws Q cells slots h' (mkF m pc' ls st)) : G p l e R s m args below meth c n0 h0 ws Q cells slots h (mkF m pc ls (.int x :: .int j :: .ref a :: st)) := by
  subst hp
  have A0 := A
  obtain ⟨cl, A, hs, hn, hv⟩ := A
  obtain ⟨hin, hjn⟩ := own_idx hj (hs.symm ▸ hi : i < cl.slots.size)
  exact G.wr B ha (fun T locs k n X eT => Jvm.RoadKit.stI X B.1.1 B.1.2.2.2.2 eT A (j := j) hin (g := (mkF m pc ls (.int x :: .int j :: .ref a :: st))) rfl rfl (hb B.1.2.1 hd)) (fun h' W => kk h' (Keep.of_wr W) (A0.set (hjn ▸ W)))
theorem G.stB {a : Addr} {j : Int32} {i n : Nat} {f : Nat → Int32} {x z : Int32} (B : Cx p s m meth c Z own nm bytes maxL rt n0 h0 ws) (A : ArI Z h a .byte n f) (hj : j.toInt = (i : Int)) (hi : i < n) (ha : a ∈ ws ∨ h0.size ≤ a) (hz : nar .byte x = z) (hd : decode bytes pc = .ok (.bastore, 1)) (hp : pc + 1 = pc') (kk : ∀ h', Keep h h' [a] → ArI Z h' a .byte n (up f i z) → G p l e R s m args below meth c n0 h0 ws Q cells slots h' (mkF m pc' ls st)) : G p l e R s m args below meth c n0 h0 ws Q cells slots h (mkF m pc ls (.int x :: .int j :: .ref a :: st)) := by
  subst hp hz
  have A0 := A
  obtain ⟨cl, A, hs, hn, hv⟩ := A
  obtain ⟨hin, hjn⟩ := own_idx hj (hs.symm ▸ hi : i < cl.slots.size)
  exact G.wr B ha (fun T locs k n X eT => Jvm.RoadKit.stB X B.1.1 B.1.2.2.2.2 eT A (j := j) hin (g := (mkF m pc ls (.int x :: .int j :: .ref a :: st))) rfl rfl (hb B.1.2.1 hd)) (fun h' W => kk h' (Keep.of_wr W) (A0.set (hjn ▸ W)))
theorem G.stZ {a : Addr} {j : Int32} {i n : Nat} {f : Nat → Int32} {x z : Int32} (B : Cx p s m meth c Z own nm bytes maxL rt n0 h0 ws) (A : ArI Z h a .boolean n f) (hj : j.toInt = (i : Int)) (hi : i < n) (ha : a ∈ ws ∨ h0.size ≤ a) (hz : nar .boolean x = z) (hd : decode bytes pc = .ok (.bastore, 1)) (hp : pc + 1 = pc') (kk : ∀ h', Keep h h' [a] → ArI Z h' a .boolean n (up f i z) → G p l e R s m args below meth c n0 h0 ws Q cells slots h' (mkF m pc' ls st)) : G p l e R s m args below meth c n0 h0 ws Q cells slots h (mkF m pc ls (.int x :: .int j :: .ref a :: st)) := by
  subst hp hz
  have A0 := A
  obtain ⟨cl, A, hs, hn, hv⟩ := A
  obtain ⟨hin, hjn⟩ := own_idx hj (hs.symm ▸ hi : i < cl.slots.size)
  exact G.wr B ha (fun T locs k n X eT => Jvm.RoadKit.stZ X B.1.1 B.1.2.2.2.2 eT A (j := j) hin (g := (mkF m pc ls (.int x :: .int j :: .ref a :: st))) rfl rfl (hb B.1.2.1 hd)) (fun h' W => kk h' (Keep.of_wr W) (A0.set (hjn ▸ W)))
theorem G.stC {a : Addr} {j : Int32} {i n : Nat} {f : Nat → Int32} {x z : Int32} (B : Cx p s m meth c Z own nm bytes maxL rt n0 h0 ws) (A : ArI Z h a .char n f) (hj : j.toInt = (i : Int)) (hi : i < n) (ha : a ∈ ws ∨ h0.size ≤ a) (hz : nar .char x = z) (hd : decode bytes pc = .ok (.castore, 1)) (hp : pc + 1 = pc') (kk : ∀ h', Keep h h' [a] → ArI Z h' a .char n (up f i z) → G p l e R s m args below meth c n0 h0 ws Q cells slots h' (mkF m pc' ls st)) : G p l e R s m args below meth c n0 h0 ws Q cells slots h (mkF m pc ls (.int x :: .int j :: .ref a :: st)) := by
  subst hp hz
  have A0 := A
  obtain ⟨cl, A, hs, hn, hv⟩ := A
  obtain ⟨hin, hjn⟩ := own_idx hj (hs.symm ▸ hi : i < cl.slots.size)
  exact G.wr B ha (fun T locs k n X eT => Jvm.RoadKit.stC X B.1.1 B.1.2.2.2.2 eT A (j := j) hin (g := (mkF m pc ls (.int x :: .int j :: .ref a :: st))) rfl rfl (hb B.1.2.1 hd)) (fun h' W => kk h' (Keep.of_wr W) (A0.set (hjn ▸ W)))
theorem G.ldJ {a : Addr} {j : Int32} {i n : Nat} {f : Nat → Int64} {x : Int64} (B : Cx p s m meth c Z own nm bytes maxL rt n0 h0 ws) (A : ArJ Z h a n f) (hj : j.toInt = (i : Int)) (hi : i < n) (hv : f i = x) (hd : decode bytes pc = .ok (.laload, 1)) (hp : pc + 1 = pc') (kk : G p l e R s m args below meth c n0 h0 ws Q cells slots h (mkF m pc' ls (.long x :: st))) : G p l e R s m args below meth c n0 h0 ws Q cells slots h (mkF m pc ls (.int j :: .ref a :: st)) := by
  subst hp hv
  obtain ⟨cl, A, hs, hn, hv⟩ := A
  obtain ⟨hin, hjn⟩ := own_idx hj (hs.symm ▸ hi : i < cl.slots.size)
  exact G.stepX (fun T locs k n t X eT q => X.laload B.1.1 (j := j) (by rw [eT]; exact A.1) (State.isArrayOf_alike B.1.2.2.2.2.alike A.2.1) A.2.2 hin (by rw [hjn]; exact hv i hi) (g := (mkF m pc ls (.int j :: .ref a :: st))) rfl rfl (hb B.1.2.1 hd) _ q) kk
theorem G.ldI {a : Addr} {j : Int32} {i n : Nat} {f : Nat → Int32} {x : Int32} (B : Cx p s m meth c Z own nm bytes maxL rt n0 h0 ws) (A : ArI Z h a .int n f) (hj : j.toInt = (i : Int)) (hi : i < n) (hv : f i = x) (hd : decode bytes pc = .ok (.iaload, 1)) (hp : pc + 1 = pc') (kk : G p l e R s m args below meth c n0 h0 ws Q cells slots h (mkF m pc' ls (.int x :: st))) : G p l e R s m args below meth c n0 h0 ws Q cells slots h (mkF m pc ls (.int j :: .ref a :: st)) := by
  subst hp hv
  obtain ⟨cl, A, hs, hn, hv⟩ := A
  obtain ⟨hin, hjn⟩ := own_idx hj (hs.symm ▸ hi : i < cl.slots.size)
  exact G.stepX (fun T locs k n t X eT q => X.iaload B.1.1 (j := j) (by rw [eT]; exact A.1) (State.isArrayOf_alike B.1.2.2.2.2.alike A.2.1) A.2.2 hin (by rw [hjn]; exact hv i hi) (g := (mkF m pc ls (.int j :: .ref a :: st))) rfl rfl (hb B.1.2.1 hd) _ q) kk
theorem G.ldC {a : Addr} {j : Int32} {i n : Nat} {f : Nat → Int32} {x : Int32} (B : Cx p s m meth c Z own nm bytes maxL rt n0 h0 ws) (A : ArI Z h a .char n f) (hj : j.toInt = (i : Int)) (hi : i < n) (hv : f i = x) (hd : decode bytes pc = .ok (.caload, 1)) (hp : pc + 1 = pc') (kk : G p l e R s m args below meth c n0 h0 ws Q cells slots h (mkF m pc' ls (.int x :: st))) : G p l e R s m args below meth c n0 h0 ws Q cells slots h (mkF m pc ls (.int j :: .ref a :: st)) := by
  subst hp hv
  obtain ⟨cl, A, hs, hn, hv⟩ := A
  obtain ⟨hin, hjn⟩ := own_idx hj (hs.symm ▸ hi : i < cl.slots.size)
  exact G.stepX (fun T locs k n t X eT q => X.caload B.1.1 (j := j) (by rw [eT]; exact A.1) (State.isArrayOf_alike B.1.2.2.2.2.alike A.2.1) A.2.2 hin (by rw [hjn]; exact hv i hi) (g := (mkF m pc ls (.int j :: .ref a :: st))) rfl rfl (hb B.1.2.1 hd) _ q) kk
theorem G.ldB {a : Addr} {j : Int32} {i n : Nat} {f : Nat → Int32} {x : Int32} (B : Cx p s m meth c Z own nm bytes maxL rt n0 h0 ws) (A : ArI Z h a .byte n f) (hj : j.toInt = (i : Int)) (hi : i < n) (hv : f i = x) (hd : decode bytes pc = .ok (.baload, 1)) (hp : pc + 1 = pc') (kk : G p l e R s m args below meth c n0 h0 ws Q cells slots h (mkF m pc' ls (.int x :: st))) : G p l e R s m args below meth c n0 h0 ws Q cells slots h (mkF m pc ls (.int j :: .ref a :: st)) := by
  subst hp hv
  obtain ⟨cl, A, hs, hn, hv⟩ := A
  obtain ⟨hin, hjn⟩ := own_idx hj (hs.symm ▸ hi : i < cl.slots.size)
  exact G.stepX (fun T locs k n t X eT q => X.baloadBytes B.1.1 (j := j) (by rw [eT]; exact A.1) (State.isArrayOf_alike B.1.2.2.2.2.alike A.2.1) A.2.2 hin (by rw [hjn]; exact hv i hi) (g := (mkF m pc ls (.int j :: .ref a :: st))) rfl rfl (hb B.1.2.1 hd) _ q) kk
theorem G.ldZ {a : Addr} {j : Int32} {i n : Nat} {f : Nat → Int32} {x : Int32} (B : Cx p s m meth c Z own nm bytes maxL rt n0 h0 ws) (A : ArI Z h a .boolean n f) (hj : j.toInt = (i : Int)) (hi : i < n) (hv : f i = x) (hd : decode bytes pc = .ok (.baload, 1)) (hp : pc + 1 = pc') (kk : G p l e R s m args below meth c n0 h0 ws Q cells slots h (mkF m pc' ls (.int x :: st))) : G p l e R s m args below meth c n0 h0 ws Q cells slots h (mkF m pc ls (.int j :: .ref a :: st)) := by
  subst hp hv
  obtain ⟨cl, A, hs, hn, hv⟩ := A
  obtain ⟨hin, hjn⟩ := own_idx hj (hs.symm ▸ hi : i < cl.slots.size)
  exact G.stepX (fun T locs k n t X eT q => X.baloadBooleans B.1.1 (j := j) (by rw [eT]; exact A.1) (State.isArrayOf_alike B.1.2.2.2.2.alike A.2.1) A.2.2 hin (by rw [hjn]; exact hv i hi) (g := (mkF m pc ls (.int j :: .ref a :: st))) rfl rfl (hb B.1.2.1 hd) _ q) kk
theorem G.lenJ {a : Addr} {n : Nat} {z : Int32} {f : Nat → Int64} (B : Cx p s m meth c Z own nm bytes maxL rt n0 h0 ws) (A : ArJ Z h a n f) (hz : Int32.ofNat n = z) (hd : decode bytes pc = .ok (.arraylength, 1)) (hp : pc + 1 = pc') (kk : G p l e R s m args below meth c n0 h0 ws Q cells slots h (mkF m pc' ls (.int z :: st))) : G p l e R s m args below meth c n0 h0 ws Q cells slots h (mkF m pc ls (.ref a :: st)) := by
  subst hp hz
  obtain ⟨cl, A, hs, hn, hv⟩ := A
  subst hs
  exact G.stepX (fun T locs k n t X eT q => X.arraylength B.1.1 (by rw [eT]; exact A.1) (State.isArrayOf_alike B.1.2.2.2.2.alike A.2.1) (g := (mkF m pc ls (.ref a :: st))) rfl rfl (hb B.1.2.1 hd) _ q) kk
theorem G.lenI {a : Addr} {n : Nat} {z : Int32} {f : Nat → Int32} {ty : FieldType} (B : Cx p s m meth c Z own nm bytes maxL rt n0 h0 ws) (A : ArI Z h a ty n f) (hz : Int32.ofNat n = z) (hd : decode bytes pc = .ok (.arraylength, 1)) (hp : pc + 1 = pc') (kk : G p l e R s m args below meth c n0 h0 ws Q cells slots h (mkF m pc' ls (.int z :: st))) : G p l e R s m args below meth c n0 h0 ws Q cells slots h (mkF m pc ls (.ref a :: st)) := by
  subst hp hz
  obtain ⟨cl, A, hs, hn, hv⟩ := A
  subst hs
  exact G.stepX (fun T locs k n t X eT q => X.arraylength B.1.1 (by rw [eT]; exact A.1) (State.isArrayOf_alike B.1.2.2.2.2.alike A.2.1) (g := (mkF m pc ls (.ref a :: st))) rfl rfl (hb B.1.2.1 hd) _ q) kk
theorem own_newJ {a : Addr} {cA : ClassId} {z : Int32} {n : Nat} (A : Arr Z h a (newA cA .long z) .long) (hz : z.toInt = (n : Int)) : ArJ Z h a n (fun _ => 0) := by
  have hr := rng32 z
  have h1 : z.toNatClampNeg = n := by show z.toInt.toNat = n; omega
  exact ⟨_, A, (sz_new _ _ _).trans h1, by omega, fun i hi => by simp [newA, h1, hi, defaultValue]⟩
theorem own_newI {a : Addr} {cA : ClassId} {z : Int32} {n : Nat} {ty : FieldType} (hd : defaultValue ty = .int 0) (A : Arr Z h a (newA cA ty z) ty) (hz : z.toInt = (n : Int)) : ArI Z h a ty n (fun _ => 0) := by
  have hr := rng32 z
  have h1 : z.toNatClampNeg = n := by show z.toInt.toNat = n; omega
  exact ⟨_, A, (sz_new _ _ _).trans h1, by omega, fun i hi => by simp [newA, h1, hi, hd]⟩
theorem G.newJ {z : Int32} {n cap : Nat} (B : Cx p s m meth c Z own nm bytes maxL rt n0 h0 ws) (w : (Jvm.Cond.arrayClass .long).before a0 Z = true) (hz : z.toInt = (n : Int)) (hcap : n ≤ cap) (hb8 : cap * 8 ≤ 536870912) (hd : decode bytes pc = .ok (.newarray .long, 2)) (hp : pc + 2 = pc') (hc : cells + 1 ≤ R.cells) (hl : slots + cap ≤ R.slots)
    (kk : ∀ h' a, a = h.size → h0.size ≤ a → Keep h h' [] → ArJ Z h' a n (fun _ => 0) → G p l e R s m args below meth c n0 h0 ws Q (cells + 1) (slots + cap) h' (mkF m pc' ls (.ref a :: st))) : G p l e R s m args below meth c n0 h0 ws Q cells slots h (mkF m pc ls (.int z :: st)) := fun T locs k n' X hk hn eT N K => by
  subst hp
  have hr := rng32 z
  have h1 : z.toNatClampNeg = n := by show z.toInt.toNat = n; omega
  obtain ⟨T', h', cA, X', e', E', A', stp⟩ := Jvm.RoadKit.newP X B.1.1 B.1.2.2.2.2 (aty := .long) w eT (g := (mkF m pc ls (.int z :: st))) rfl (hb B.1.2.1 hd) rfl (fun q => by rw [Int32.lt_iff_toInt_lt, Int32.toInt_zero] at q; omega) (cap := cap) (by omega) hb8 (Nat.le_trans (Nat.add_le_add_right hk 1) hc) (Nat.le_trans (Nat.add_le_add_right hn cap) hl)
  obtain ⟨U, v, L, hs, r⟩ := kk h' h.size rfl K.1 ((Keep.refl h []).ext E') (own_newJ A' hz) T' locs (k + 1) (n' + cap) X' (Nat.add_le_add_right hk 1) (Nat.add_le_add_right hn cap) e' N (K.ext E')
  exact ⟨U, v, L, stp U hs, r⟩
theorem G.newI {z : Int32} {n cap : Nat} (B : Cx p s m meth c Z own nm bytes maxL rt n0 h0 ws) (w : (Jvm.Cond.arrayClass .int).before a0 Z = true) (hz : z.toInt = (n : Int)) (hcap : n ≤ cap) (hb8 : cap * 8 ≤ 536870912) (hd : decode bytes pc = .ok (.newarray .int, 2)) (hp : pc + 2 = pc') (hc : cells + 1 ≤ R.cells) (hl : slots + cap ≤ R.slots)
    (kk : ∀ h' a, a = h.size → h0.size ≤ a → Keep h h' [] → ArI Z h' a .int n (fun _ => 0) → G p l e R s m args below meth c n0 h0 ws Q (cells + 1) (slots + cap) h' (mkF m pc' ls (.ref a :: st))) : G p l e R s m args below meth c n0 h0 ws Q cells slots h (mkF m pc ls (.int z :: st)) := fun T locs k n' X hk hn eT N K => by
  subst hp
  have hr := rng32 z
  have h1 : z.toNatClampNeg = n := by show z.toInt.toNat = n; omega
  obtain ⟨T', h', cA, X', e', E', A', stp⟩ := Jvm.RoadKit.newP X B.1.1 B.1.2.2.2.2 (aty := .int) w eT (g := (mkF m pc ls (.int z :: st))) rfl (hb B.1.2.1 hd) rfl (fun q => by rw [Int32.lt_iff_toInt_lt, Int32.toInt_zero] at q; omega) (cap := cap) (by omega) hb8 (Nat.le_trans (Nat.add_le_add_right hk 1) hc) (Nat.le_trans (Nat.add_le_add_right hn cap) hl)
  obtain ⟨U, v, L, hs, r⟩ := kk h' h.size rfl K.1 ((Keep.refl h []).ext E') (own_newI rfl A' hz) T' locs (k + 1) (n' + cap) X' (Nat.add_le_add_right hk 1) (Nat.add_le_add_right hn cap) e' N (K.ext E')
  exact ⟨U, v, L, stp U hs, r⟩
theorem G.newB {z : Int32} {n cap : Nat} (B : Cx p s m meth c Z own nm bytes maxL rt n0 h0 ws) (w : (Jvm.Cond.arrayClass .byte).before a0 Z = true) (hz : z.toInt = (n : Int)) (hcap : n ≤ cap) (hb8 : cap * 8 ≤ 536870912) (hd : decode bytes pc = .ok (.newarray .byte, 2)) (hp : pc + 2 = pc') (hc : cells + 1 ≤ R.cells) (hl : slots + cap ≤ R.slots)
    (kk : ∀ h' a, a = h.size → h0.size ≤ a → Keep h h' [] → ArI Z h' a .byte n (fun _ => 0) → G p l e R s m args below meth c n0 h0 ws Q (cells + 1) (slots + cap) h' (mkF m pc' ls (.ref a :: st))) : G p l e R s m args below meth c n0 h0 ws Q cells slots h (mkF m pc ls (.int z :: st)) := fun T locs k n' X hk hn eT N K => by
  subst hp
  have hr := rng32 z
  have h1 : z.toNatClampNeg = n := by show z.toInt.toNat = n; omega
  obtain ⟨T', h', cA, X', e', E', A', stp⟩ := Jvm.RoadKit.newP X B.1.1 B.1.2.2.2.2 (aty := .byte) w eT (g := (mkF m pc ls (.int z :: st))) rfl (hb B.1.2.1 hd) rfl (fun q => by rw [Int32.lt_iff_toInt_lt, Int32.toInt_zero] at q; omega) (cap := cap) (by omega) hb8 (Nat.le_trans (Nat.add_le_add_right hk 1) hc) (Nat.le_trans (Nat.add_le_add_right hn cap) hl)
  obtain ⟨U, v, L, hs, r⟩ := kk h' h.size rfl K.1 ((Keep.refl h []).ext E') (own_newI rfl A' hz) T' locs (k + 1) (n' + cap) X' (Nat.add_le_add_right hk 1) (Nat.add_le_add_right hn cap) e' N (K.ext E')
  exact ⟨U, v, L, stp U hs, r⟩
theorem G.newZ {z : Int32} {n cap : Nat} (B : Cx p s m meth c Z own nm bytes maxL rt n0 h0 ws) (w : (Jvm.Cond.arrayClass .boolean).before a0 Z = true) (hz : z.toInt = (n : Int)) (hcap : n ≤ cap) (hb8 : cap * 8 ≤ 536870912) (hd : decode bytes pc = .ok (.newarray .boolean, 2)) (hp : pc + 2 = pc') (hc : cells + 1 ≤ R.cells) (hl : slots + cap ≤ R.slots)
    (kk : ∀ h' a, a = h.size → h0.size ≤ a → Keep h h' [] → ArI Z h' a .boolean n (fun _ => 0) → G p l e R s m args below meth c n0 h0 ws Q (cells + 1) (slots + cap) h' (mkF m pc' ls (.ref a :: st))) : G p l e R s m args below meth c n0 h0 ws Q cells slots h (mkF m pc ls (.int z :: st)) := fun T locs k n' X hk hn eT N K => by
  subst hp
  have hr := rng32 z
  have h1 : z.toNatClampNeg = n := by show z.toInt.toNat = n; omega
  obtain ⟨T', h', cA, X', e', E', A', stp⟩ := Jvm.RoadKit.newP X B.1.1 B.1.2.2.2.2 (aty := .boolean) w eT (g := (mkF m pc ls (.int z :: st))) rfl (hb B.1.2.1 hd) rfl (fun q => by rw [Int32.lt_iff_toInt_lt, Int32.toInt_zero] at q; omega) (cap := cap) (by omega) hb8 (Nat.le_trans (Nat.add_le_add_right hk 1) hc) (Nat.le_trans (Nat.add_le_add_right hn cap) hl)
  obtain ⟨U, v, L, hs, r⟩ := kk h' h.size rfl K.1 ((Keep.refl h []).ext E') (own_newI rfl A' hz) T' locs (k + 1) (n' + cap) X' (Nat.add_le_add_right hk 1) (Nat.add_le_add_right hn cap) e' N (K.ext E')
  exact ⟨U, v, L, stp U hs, r⟩
theorem G.newC {z : Int32} {n cap : Nat} (B : Cx p s m meth c Z own nm bytes maxL rt n0 h0 ws) (w : (Jvm.Cond.arrayClass .char).before a0 Z = true) (hz : z.toInt = (n : Int)) (hcap : n ≤ cap) (hb8 : cap * 8 ≤ 536870912) (hd : decode bytes pc = .ok (.newarray .char, 2)) (hp : pc + 2 = pc') (hc : cells + 1 ≤ R.cells) (hl : slots + cap ≤ R.slots)
    (kk : ∀ h' a, a = h.size → h0.size ≤ a → Keep h h' [] → ArI Z h' a .char n (fun _ => 0) → G p l e R s m args below meth c n0 h0 ws Q (cells + 1) (slots + cap) h' (mkF m pc' ls (.ref a :: st))) : G p l e R s m args below meth c n0 h0 ws Q cells slots h (mkF m pc ls (.int z :: st)) := fun T locs k n' X hk hn eT N K => by
  subst hp
  have hr := rng32 z
  have h1 : z.toNatClampNeg = n := by show z.toInt.toNat = n; omega
  obtain ⟨T', h', cA, X', e', E', A', stp⟩ := Jvm.RoadKit.newP X B.1.1 B.1.2.2.2.2 (aty := .char) w eT (g := (mkF m pc ls (.int z :: st))) rfl (hb B.1.2.1 hd) rfl (fun q => by rw [Int32.lt_iff_toInt_lt, Int32.toInt_zero] at q; omega) (cap := cap) (by omega) hb8 (Nat.le_trans (Nat.add_le_add_right hk 1) hc) (Nat.le_trans (Nat.add_le_add_right hn cap) hl)
  obtain ⟨U, v, L, hs, r⟩ := kk h' h.size rfl K.1 ((Keep.refl h []).ext E') (own_newI rfl A' hz) T' locs (k + 1) (n' + cap) X' (Nat.add_le_add_right hk 1) (Nat.add_le_add_right hn cap) e' N (K.ext E')
  exact ⟨U, v, L, stp U hs, r⟩
theorem own_back {y : MethodName} {bytes' : ByteArray} {maxL' : Nat} {rt' : Option FieldType} {rm : Room} {as' : Array Value} {ws' : List Addr} {Q' : Option Value → Heap → Prop} {len W : Nat} (B : Cx p s m meth c Z own nm bytes maxL rt n0 h0 ws) (M : Mt l Z y bytes' maxL' rt' [] rm n0 as' h ws' Q') (wc : (Jvm.Cond.code y bytes' maxL' rt').before a0 Z = true) (wz : (Jvm.Cond.initialized y.cls).before a0 Z = true) (hf : rm.frames + 1 ≤ R.frames) (hl : W + (maxL' + 11) + rm.locals ≤ R.locals) :
    Back l R p e below s args y len W (fun A a => a = as' ∧ A.U.heap = h ∧ A.cells + rm.cells ≤ R.cells ∧ A.slots + rm.slots ≤ R.slots) (fun A _ v B => ∃ L, (Fr n0 L ∧ Keep h B.U.heap ws' ∧ Q' v B.U.heap) ∧ B.locs = A.locs ++ L ∧ B.cells = A.cells + rm.cells ∧ B.slots = A.slots + rm.slots) :=
  backOf (Q := fun v hh L => Fr n0 L ∧ Keep h hh ws' ∧ Q' v hh) M B.1.2.2.2.2 wc wz hf hl
theorem G.callS {y : MethodName} {bytes' : ByteArray} {maxL' : Nat} {rt' : Option FieldType} {rm : Room} {ws' : List Addr} {Q' : Option Value → Heap → Prop} {index W : Nat} {argsL rest : List Value} (B : Cx p s m meth c Z own nm bytes maxL rt n0 h0 ws) (w1 : (Jvm.Cond.methodLink own index y).before a0 Z = true) (w2 : (Jvm.Cond.static y).before a0 Z = true) (M : Mt l Z y bytes' maxL' rt' [] rm n0 argsL.toArray h ws' Q') (hws : ∀ x ∈ ws', x ∈ ws ∨ h0.size ≤ x) (wc : (Jvm.Cond.code y bytes' maxL' rt').before a0 Z = true) (wz : (Jvm.Cond.initialized y.cls).before a0 Z = true) (hy : y.cls ≠ "java/lang/invoke/MethodHandle" ∧ y.cls ≠ "java/lang/invoke/VarHandle") (hsz : ls.size = maxL) (hst : st = argsL.reverse ++ rest) (hlen : ∀ sig, parseMethodDescriptor y.desc = some sig → argsL.length = sig.parameters.length) (hf : rm.frames + 1 ≤ R.frames) (hW : 2 * 0 + (rest.map fun v => v.category).sum ≤ W) (hl : W + (maxL' + 11) + rm.locals ≤ R.locals) (hc : cells + rm.cells ≤ R.cells) (hs : slots + rm.slots ≤ R.slots) (hd : decode bytes pc = .ok (.invokestatic index, 3)) (hp : pc + 3 = pc')
    (kk : ∀ v h', Keep h h' ws' → Q' v h' → G p l e R s m args below meth c n0 h0 ws Q (cells + rm.cells) (slots + rm.slots) h' (mkF m pc' ls (v.toList ++ rest))) : G p l e R s m args below meth c n0 h0 ws Q cells slots h (mkF m pc ls st) := fun T locs k n X hk hn eT N K => by
  subst hp hst
  obtain ⟨v, _, ⟨T', L', k', n'⟩, -, X', ⟨Lc, hQ, l1, y1, z1⟩, stp⟩ := Jvm.LawKit.callS X B.1.1 (y := y) B.1.2.2.2.1 (mvT B.1.2.2.2.2 w1) (mvT B.1.2.2.2.2 w2) (mvT B.1.2.2.2.2 wz) (mvT B.1.2.2.2.2 wc) hy (own_back (W := W) B M wc wz hf hl) (g := (mkF m pc ls (argsL.reverse ++ rest))) rfl (hsz.trans B.1.2.2.1.symm) (argsL := argsL) (rest := rest) hlen rfl hW (hb B.1.2.1 hd) (fun _ _ => ⟨rfl, eT, Nat.le_trans (Nat.add_le_add_right hk _) hc, Nat.le_trans (Nat.add_le_add_right hn _) hs⟩)
  dsimp only [Pt.U, Pt.locs, Pt.cells, Pt.slots] at X' l1 y1 z1 stp hQ
  subst l1 y1 z1
  obtain ⟨U, v, L, hs', r⟩ := kk v T'.heap hQ.2.1 hQ.2.2 T' (locs ++ Lc) _ _ X' (Nat.add_le_add_right hk _) (Nat.add_le_add_right hn _) rfl (Fr.app N hQ.1) (K.trans hQ.2.1 hws)
  exact ⟨U, v, L, stp _ hs', r⟩
theorem G.callC {a : Addr} {y : MethodName} {bytes' : ByteArray} {maxL' : Nat} {rt' : Option FieldType} {rm : Room} {ws' : List Addr} {Q' : Option Value → Heap → Prop} {index W : Nat} {argsL rest : List Value} (B : Cx p s m meth c Z own nm bytes maxL rt n0 h0 ws) (w0 : y.name = "<init>") (w1 : (Jvm.Cond.methodLink own index y).before a0 Z = true) (w2 : (Jvm.Cond.instanceMethod y).before a0 Z = true) (hrt : rt' = none) (M : Mt l Z y bytes' maxL' rt' [] rm n0 (.ref a :: argsL).toArray h ws' Q') (hws : ∀ x ∈ ws', x ∈ ws ∨ h0.size ≤ x) (wc : (Jvm.Cond.code y bytes' maxL' rt').before a0 Z = true) (wz : (Jvm.Cond.initialized y.cls).before a0 Z = true) (hy : y.cls ≠ "java/lang/invoke/MethodHandle" ∧ y.cls ≠ "java/lang/invoke/VarHandle") (hsz : ls.size = maxL) (hst : st = argsL.reverse ++ .ref a :: rest) (hlen : ∀ sig, parseMethodDescriptor y.desc = some sig → argsL.length = sig.parameters.length) (hf : rm.frames + 1 ≤ R.frames) (hW : 2 * 0 + (rest.map fun v => v.category).sum ≤ W) (hl : W + (maxL' + 11) + rm.locals ≤ R.locals) (hc : cells + rm.cells ≤ R.cells) (hs : slots + rm.slots ≤ R.slots) (hd : decode bytes pc = .ok (.invokespecial index, 3)) (hp : pc + 3 = pc')
    (kk : ∀ v h', Keep h h' ws' → Q' v h' → G p l e R s m args below meth c n0 h0 ws Q (cells + rm.cells) (slots + rm.slots) h' (mkF m pc' ls (v.toList ++ rest))) : G p l e R s m args below meth c n0 h0 ws Q cells slots h (mkF m pc ls st) := fun T locs k n X hk hn eT N K => by
  subst hp hst
  subst hrt
  obtain ⟨v, _, ⟨T', L', k', n'⟩, -, X', ⟨Lc, hQ, l1, y1, z1⟩, stp⟩ := X.specialBack B.1.1 (y := y) w0 B.1.2.2.2.1 (mvT B.1.2.2.2.2 w1) (mvT B.1.2.2.2.2 w2) (mvT B.1.2.2.2.2 wc) hy (own_back (W := W) B M wc wz hf hl) (g := (mkF m pc ls (argsL.reverse ++ .ref a :: rest))) rfl (hsz.trans B.1.2.2.1.symm) (Steps.refl _) (a := a) (argsL := argsL) (rest := rest) hlen rfl hW (hb B.1.2.1 hd) (fun _ _ => ⟨rfl, eT, Nat.le_trans (Nat.add_le_add_right hk _) hc, Nat.le_trans (Nat.add_le_add_right hn _) hs⟩)
  dsimp only [Pt.U, Pt.locs, Pt.cells, Pt.slots] at X' l1 y1 z1 stp hQ
  subst l1 y1 z1
  obtain ⟨U, v, L, hs', r⟩ := kk v T'.heap hQ.2.1 hQ.2.2 T' (locs ++ Lc) _ _ X' (Nat.add_le_add_right hk _) (Nat.add_le_add_right hn _) rfl (Fr.app N hQ.1) (K.trans hQ.2.1 hws)
  exact ⟨U, v, L, stp.trans hs', r⟩
theorem G.callV {a : Addr} {y : MethodName} {bytes' : ByteArray} {maxL' : Nat} {rt' : Option FieldType} {rm : Room} {ws' : List Addr} {Q' : Option Value → Heap → Prop} {index W : Nat} {argsL rest : List Value} (B : Cx p s m meth c Z own nm bytes maxL rt n0 h0 ws) (E : Exa Z h a y.cls) (w1 : (Jvm.Cond.methodLink own index y).before a0 Z = true) (w2 : (Jvm.Cond.declares y).before a0 Z = true) (w3 : (Jvm.Cond.selects y.cls y y).before a0 Z = true) (w4 : (Jvm.Cond.instanceMethod y).before a0 Z = true) (M : Mt l Z y bytes' maxL' rt' [] rm n0 (.ref a :: argsL).toArray h ws' Q') (hws : ∀ x ∈ ws', x ∈ ws ∨ h0.size ≤ x) (wc : (Jvm.Cond.code y bytes' maxL' rt').before a0 Z = true) (wz : (Jvm.Cond.initialized y.cls).before a0 Z = true) (hy : y.cls ≠ "java/lang/invoke/MethodHandle" ∧ y.cls ≠ "java/lang/invoke/VarHandle") (hsz : ls.size = maxL) (hst : st = argsL.reverse ++ .ref a :: rest) (hlen : ∀ sig, parseMethodDescriptor y.desc = some sig → argsL.length = sig.parameters.length) (hf : rm.frames + 1 ≤ R.frames) (hW : 2 * 0 + (rest.map fun v => v.category).sum ≤ W) (hl : W + (maxL' + 11) + rm.locals ≤ R.locals) (hc : cells + rm.cells ≤ R.cells) (hs : slots + rm.slots ≤ R.slots) (hd : decode bytes pc = .ok (.invokevirtual index, 3)) (hp : pc + 3 = pc')
    (kk : ∀ v h', Keep h h' ws' → Q' v h' → G p l e R s m args below meth c n0 h0 ws Q (cells + rm.cells) (slots + rm.slots) h' (mkF m pc' ls (v.toList ++ rest))) : G p l e R s m args below meth c n0 h0 ws Q cells slots h (mkF m pc ls st) := fun T locs k n X hk hn eT N K => by
  subst hp hst
  obtain ⟨cq, kq, qa, qb, qc⟩ := isOf B.1.2.2.2.2 eT E
  obtain ⟨v, _, ⟨T', L', k', n'⟩, -, X', ⟨Lc, hQ, l1, y1, z1⟩, stp⟩ := X.virtualBack B.1.1 (y := y) (z := y) B.1.2.2.2.1 (mvT B.1.2.2.2.2 w1) (mvT B.1.2.2.2.2 w2) (notFace_of_selects (args := #[]) (mvT B.1.2.2.2.2 w3)) (mvT B.1.2.2.2.2 w3) (mvT B.1.2.2.2.2 w4) hy (own_back (W := W) B M wc wz hf hl) qa qc (g := (mkF m pc ls (argsL.reverse ++ .ref a :: rest))) rfl (hsz.trans B.1.2.2.1.symm) (Steps.refl _) (argsL := argsL) (rest := rest) hlen rfl hW (hb B.1.2.1 hd) (fun _ _ => ⟨rfl, eT, Nat.le_trans (Nat.add_le_add_right hk _) hc, Nat.le_trans (Nat.add_le_add_right hn _) hs⟩)
  dsimp only [Pt.U, Pt.locs, Pt.cells, Pt.slots] at X' l1 y1 z1 stp hQ
  subst l1 y1 z1
  obtain ⟨U, v, L, hs', r⟩ := kk v T'.heap hQ.2.1 hQ.2.2 T' (locs ++ Lc) _ _ X' (Nat.add_le_add_right hk _) (Nat.add_le_add_right hn _) rfl (Fr.app N hQ.1) (K.trans hQ.2.1 hws)
  exact ⟨U, v, L, stp.trans hs', r⟩
theorem own_sel {args : Array Value} {s : State} {y z : MethodName} {K : String} (hz : (Jvm.Cond.selects K z z).before args s = true) (hcl : z.cls = y.cls) (hinst : (Jvm.Cond.instanceMethod y).before args s = true) (hpriv : s.PrivateAt y) (hy : y.cls ≠ "java/lang/invoke/MethodHandle" ∧ y.cls ≠ "java/lang/invoke/VarHandle") : (Jvm.Cond.selects y.cls y y).before args s = true := by
  obtain ⟨mk, meth, hnamed, hmeth, hst, hab⟩ := Cond.instanceMethod_spec hinst
  obtain ⟨c2, r2, m2, q1, q2, q3, q4, kP, hkP, hkPi⟩ := Cond.selects_spec hz
  have h1 := findClass_of_methodNamed hnamed
  have h2 := findClass_of_methodNamed q3
  rw [hcl, h1] at h2
  have h3 : mk.cls = m2.cls := Option.some.inj h2
  rw [← h3] at hkP
  have h4 := State.methodFound?_of_named hnamed hy
  have h5 := selectMethod_private (p := {}) (c := mk.cls) hmeth (hpriv mk meth hnamed hmeth)
  simp [Cond.before, Cond.holds, Cond.value, h1, h4, hnamed, h5, hkP, hkPi]
theorem G.callP {a : Addr} {z : MethodName} {K : String} {y : MethodName} {bytes' : ByteArray} {maxL' : Nat} {rt' : Option FieldType} {rm : Room} {ws' : List Addr} {Q' : Option Value → Heap → Prop} {index W : Nat} {argsL rest : List Value} (B : Cx p s m meth c Z own nm bytes maxL rt n0 h0 ws) (E : Exa Z h a y.cls) (w1 : (Jvm.Cond.methodLink own index y).before a0 Z = true) (w2 : (Jvm.Cond.privateMethod y).before a0 Z = true) (w3 : (Jvm.Cond.selects K z z).before a0 Z = true) (hcl : z.cls = y.cls) (w4 : (Jvm.Cond.instanceMethod y).before a0 Z = true) (M : Mt l Z y bytes' maxL' rt' [] rm n0 (.ref a :: argsL).toArray h ws' Q') (hws : ∀ x ∈ ws', x ∈ ws ∨ h0.size ≤ x) (wc : (Jvm.Cond.code y bytes' maxL' rt').before a0 Z = true) (wz : (Jvm.Cond.initialized y.cls).before a0 Z = true) (hy : y.cls ≠ "java/lang/invoke/MethodHandle" ∧ y.cls ≠ "java/lang/invoke/VarHandle") (hsz : ls.size = maxL) (hst : st = argsL.reverse ++ .ref a :: rest) (hlen : ∀ sig, parseMethodDescriptor y.desc = some sig → argsL.length = sig.parameters.length) (hf : rm.frames + 1 ≤ R.frames) (hW : 2 * 0 + (rest.map fun v => v.category).sum ≤ W) (hl : W + (maxL' + 11) + rm.locals ≤ R.locals) (hc : cells + rm.cells ≤ R.cells) (hs : slots + rm.slots ≤ R.slots) (hd : decode bytes pc = .ok (.invokevirtual index, 3)) (hp : pc + 3 = pc')
    (kk : ∀ v h', Keep h h' ws' → Q' v h' → G p l e R s m args below meth c n0 h0 ws Q (cells + rm.cells) (slots + rm.slots) h' (mkF m pc' ls (v.toList ++ rest))) : G p l e R s m args below meth c n0 h0 ws Q cells slots h (mkF m pc ls st) := fun T locs k n X hk hn eT N K => by
  subst hp hst
  obtain ⟨cq, q1, q2⟩ := E.cell
  obtain ⟨v, _, ⟨T', L', k', n'⟩, -, X', ⟨Lc, hQ, l1, y1, z1⟩, stp⟩ := X.privateBack B.1.1 (y := y) B.1.2.2.2.1 (mvT B.1.2.2.2.2 w1) (mvT B.1.2.2.2.2 w4) (own_sel (mvT B.1.2.2.2.2 w3) hcl (mvT B.1.2.2.2.2 w4) (Cond.privateMethod_at (mvP B.1.2.2.2.2 w2 (args := #[]))) hy) (Cond.privateMethod_at (mvP B.1.2.2.2.2 w2 (args := #[]))) (mvT B.1.2.2.2.2 wc) hy (own_back (W := W) B M wc wz hf hl) (g := (mkF m pc ls (argsL.reverse ++ .ref a :: rest))) rfl (hsz.trans B.1.2.2.1.symm) (Steps.refl _) (a := a) (by rw [eT]; exact q1) q2 (argsL := argsL) (rest := rest) hlen rfl hW (hb B.1.2.1 hd) (fun _ _ => ⟨rfl, eT, Nat.le_trans (Nat.add_le_add_right hk _) hc, Nat.le_trans (Nat.add_le_add_right hn _) hs⟩)
  dsimp only [Pt.U, Pt.locs, Pt.cells, Pt.slots] at X' l1 y1 z1 stp hQ
  subst l1 y1 z1
  obtain ⟨U, v, L, hs', r⟩ := kk v T'.heap hQ.2.1 hQ.2.2 T' (locs ++ Lc) _ _ X' (Nat.add_le_add_right hk _) (Nat.add_le_add_right hn _) rfl (Fr.app N hQ.1) (K.trans hQ.2.1 hws)
  exact ⟨U, v, L, stp.trans hs', r⟩
end OwnKit
/-- how many of the low n bits are set -/
def pop : Nat → Nat → Nat
  | 0, _ => 0
  | n + 1, X => X % 2 + pop n (X / 2)
def m5 : Nat → Nat | 0 => 0 | n + 1 => 85 + 256 * m5 n
def m3 : Nat → Nat | 0 => 0 | n + 1 => 51 + 256 * m3 n
def mf : Nat → Nat | 0 => 0 | n + 1 => 15 + 256 * mf n
def t1 (b : Nat) : Nat := b - ((b / 2) &&& 85)
def t2 (b : Nat) : Nat := (b &&& 51) + ((b / 4) &&& 51)
def t3 (b : Nat) : Nat := (b + b / 16) &&& 15
theorem and_byte (b c Y M : Nat) (hb : b < 256) (hc : c < 256) : (b + 256 * Y) &&& (c + 256 * M) = (b &&& c) + 256 * (Y &&& M) := by
  have h1 : ((b + 256 * Y) &&& (c + 256 * M)) % 2 ^ 8 = (b &&& c) := by
    rw [Nat.and_mod_two_pow]
    congr 1 <;> omega
  have h2 : ((b + 256 * Y) &&& (c + 256 * M)) / 2 ^ 8 = (Y &&& M) := by
    rw [Nat.and_div_two_pow]
    congr 1 <;> omega
  omega
theorem dt1 : ∀ b : Fin 256, ∀ y : Fin 2, ((b.val / 2 + 128 * y.val) &&& 85) = ((b.val / 2) &&& 85) := by decide +kernel
theorem dt2 : ∀ b : Fin 256, ∀ y : Fin 4, ((b.val / 4 + 64 * y.val) &&& 51) = ((b.val / 4) &&& 51) := by decide +kernel
theorem dt3 : ∀ b : Fin 256, ∀ y : Fin 5, b.val % 16 ≤ 4 → b.val / 16 ≤ 4 → ((b.val + b.val / 16 + 16 * y.val) &&& 15) = t3 b.val := by decide +kernel
theorem dq1 : ∀ b : Fin 256, ((b.val / 2) &&& 85) ≤ b.val ∧ t1 b.val < 256 ∧ t2 (t1 b.val) < 256 ∧ t2 (t1 b.val) % 16 ≤ 4 ∧ t2 (t1 b.val) / 16 ≤ 4 ∧ t3 (t2 (t1 b.val)) = pop 8 b.val ∧ pop 8 b.val ≤ 8 := by decide +kernel
def s1 (n X : Nat) : Nat := X - ((X / 2) &&& m5 n)
def s2 (n X : Nat) : Nat := (X &&& m3 n) + ((X / 4) &&& m3 n)
def s3 (n X : Nat) : Nat := (X + X / 16) &&& mf n
theorem s1_step (n b Y : Nat) (hb : b < 256) : s1 (n + 1) (b + 256 * Y) = t1 b + 256 * s1 n Y := by
  have e : (b + 256 * Y) / 2 = (b / 2 + 128 * (Y % 2)) + 256 * (Y / 2) := by omega
  have d := dt1 ⟨b, hb⟩ ⟨Y % 2, by omega⟩
  have q := (dq1 ⟨b, hb⟩).1
  simp only at d q
  have w : (Y / 2) &&& m5 n ≤ Y := Nat.le_trans Nat.and_le_left (Nat.div_le_self Y 2)
  unfold s1 t1
  rw [e, show m5 (n + 1) = 85 + 256 * m5 n from rfl, and_byte _ _ _ _ (by omega) (by decide), d]
  omega
theorem s2_step (n b Y : Nat) (hb : b < 256) : s2 (n + 1) (b + 256 * Y) = t2 b + 256 * s2 n Y := by
  have e : (b + 256 * Y) / 4 = (b / 4 + 64 * (Y % 4)) + 256 * (Y / 4) := by omega
  have d := dt2 ⟨b, hb⟩ ⟨Y % 4, by omega⟩
  simp only at d
  unfold s2 t2
  rw [e, show m3 (n + 1) = 51 + 256 * m3 n from rfl, and_byte b 51 Y (m3 n) hb (by decide), and_byte _ _ _ _ (by omega) (by decide), d]
  omega
theorem s3_step (n b Y : Nat) (hb : b < 256) (h1 : b % 16 ≤ 4) (h2 : b / 16 ≤ 4) (h3 : Y % 16 ≤ 4) : s3 (n + 1) (b + 256 * Y) = t3 b + 256 * s3 n Y := by
  have e : b + 256 * Y + (b + 256 * Y) / 16 = (b + b / 16 + 16 * (Y % 16)) + 256 * (Y + Y / 16) := by omega
  have d := dt3 ⟨b, hb⟩ ⟨Y % 16, by omega⟩ h1 h2
  simp only at d
  unfold s3
  rw [e, show mf (n + 1) = 15 + 256 * mf n from rfl, and_byte _ _ _ _ (by omega) (by decide), d]
def TT : Nat → Nat → Nat
  | 0, _ => 0
  | n + 1, X => pop 8 (X % 256) + 256 * TT n (X / 256)
theorem all_steps (n : Nat) : ∀ X, X < 256 ^ n → s2 n (s1 n X) % 16 ≤ 4 ∧ s3 n (s2 n (s1 n X)) = TT n X := by
  induction n with
  | zero => intro X hX; have : X = 0 := by simpa using hX
            subst this; decide
  | succ n ih =>
    intro X hX
    have hY : X / 256 < 256 ^ n := by rw [Nat.pow_succ] at hX; omega
    obtain ⟨i1, i2⟩ := ih (X / 256) hY
    have e : X = X % 256 + 256 * (X / 256) := by omega
    have hb : X % 256 < 256 := by omega
    obtain ⟨-, q1, q2, q3, q4, q5, -⟩ := dq1 ⟨X % 256, hb⟩
    simp only at q1 q2 q3 q4 q5
    have r1 : s2 (n + 1) (s1 (n + 1) X) = t2 (t1 (X % 256)) + 256 * s2 n (s1 n (X / 256)) := by
      rw [e, s1_step n _ _ hb, ← e, s2_step n _ _ q1]
    refine ⟨by rw [r1]; omega, ?_⟩
    rw [r1, s3_step n _ _ q2 q3 q4 i1, i2, q5]; rfl
theorem pop_lt (n X : Nat) : pop n X ≤ n := by
  induction n generalizing X with
  | zero => exact Nat.le_refl _
  | succ n ih => have := ih (X / 2); show X % 2 + pop n (X / 2) ≤ n + 1; omega
theorem pop_8 (n X : Nat) : pop (n + 8) X = pop 8 (X % 256) + pop n (X / 256) := by
  show X % 2 + (X / 2 % 2 + (X / 2 / 2 % 2 + (X / 2 / 2 / 2 % 2 + (X / 2 / 2 / 2 / 2 % 2 + (X / 2 / 2 / 2 / 2 / 2 % 2 + (X / 2 / 2 / 2 / 2 / 2 / 2 % 2 + (X / 2 / 2 / 2 / 2 / 2 / 2 / 2 % 2 + pop n (X / 2 / 2 / 2 / 2 / 2 / 2 / 2 / 2)))))))) = _
  have e : X / 2 / 2 / 2 / 2 / 2 / 2 / 2 / 2 = X / 256 := by omega
  rw [e]
  show _ = X % 256 % 2 + (X % 256 / 2 % 2 + (X % 256 / 2 / 2 % 2 + (X % 256 / 2 / 2 / 2 % 2 + (X % 256 / 2 / 2 / 2 / 2 % 2 + (X % 256 / 2 / 2 / 2 / 2 / 2 % 2 + (X % 256 / 2 / 2 / 2 / 2 / 2 / 2 % 2 + (X % 256 / 2 / 2 / 2 / 2 / 2 / 2 / 2 % 2 + 0))))))) + pop n (X / 256)
  omega
theorem fold (p0 p1 p2 p3 p4 p5 p6 p7 C D E F : Nat) (h0 : p0 ≤ 8) (h1 : p1 ≤ 8) (h2 : p2 ≤ 8) (h3 : p3 ≤ 8) (h4 : p4 ≤ 8) (h5 : p5 ≤ 8) (h6 : p6 ≤ 8) (h7 : p7 ≤ 8)
    (hC : C = p0 + 256 * (p1 + 256 * (p2 + 256 * (p3 + 256 * (p4 + 256 * (p5 + 256 * (p6 + 256 * p7))))))) (hD : D = C + C / 256) (hE : E = D + D / 65536) (hF : F = E + E / 4294967296) :
    D < 2 ^ 64 ∧ E < 2 ^ 64 ∧ F < 2 ^ 64 ∧ F % 128 = p0 + p1 + p2 + p3 + p4 + p5 + p6 + p7 := by
  obtain ⟨C6, e6⟩ : ∃ z, z = p6 + 256 * p7 := ⟨_, rfl⟩
  rw [← e6] at hC
  have b6 : C6 ≤ 2056 := by omega
  obtain ⟨C5, e5⟩ : ∃ z, z = p5 + 256 * C6 := ⟨_, rfl⟩
  rw [← e5] at hC
  have b5 : C5 ≤ 526344 := by omega
  obtain ⟨C4, e4⟩ : ∃ z, z = p4 + 256 * C5 := ⟨_, rfl⟩
  rw [← e4] at hC
  have b4 : C4 ≤ 134744072 := by omega
  obtain ⟨C3, e3⟩ : ∃ z, z = p3 + 256 * C4 := ⟨_, rfl⟩
  rw [← e3] at hC
  have b3 : C3 ≤ 34494482440 := by omega
  obtain ⟨C2, e2⟩ : ∃ z, z = p2 + 256 * C3 := ⟨_, rfl⟩
  rw [← e2] at hC
  have b2 : C2 ≤ 8830587504648 := by omega
  obtain ⟨C1, e1⟩ : ∃ z, z = p1 + 256 * C2 := ⟨_, rfl⟩
  rw [← e1] at hC
  have b1 : C1 ≤ 2260630401189896 := by omega
  have bC : C ≤ 578721382704613384 := by omega
  have q1 : C / 256 = C1 := by clear hD hE hF e1 e2 e3 e4 e5 e6; omega
  rw [q1] at hD
  have d0 : D = (p0 + p1) + 256 * ((p1 + p2) + 256 * (C2 + C3)) := by clear hE hF e3 e4 e5 e6; omega
  have q2 : D / 65536 = C2 + C3 := by clear hD hE hF hC e1 e2 e3 e4 e5 e6; omega
  rw [q2] at hE
  have d2 : C2 + C3 = (p2 + p3) + 256 * ((p3 + p4) + 256 * (C4 + C5)) := by clear hD hE hF hC d0 q1 q2 e1 e6; omega
  have d4 : C4 + C5 = (p4 + p5) + 256 * ((p5 + p6) + 256 * (C6 + p7)) := by clear hD hE hF hC d0 d2 q1 q2 e1 e2 e3; omega
  obtain ⟨D2, f2⟩ : ∃ z, z = C2 + C3 := ⟨_, rfl⟩
  obtain ⟨D4, f4⟩ : ∃ z, z = C4 + C5 := ⟨_, rfl⟩
  obtain ⟨D6, f6⟩ : ∃ z, z = C6 + p7 := ⟨_, rfl⟩
  rw [← f2] at d0 d2 hE
  rw [← f4] at d2 d4
  rw [← f6] at d4
  have x0 : E = (p0 + p1 + p2 + p3) + 256 * ((p1 + p2 + p3 + p4) + 256 * ((p2 + p3 + p4 + p5) + 256 * ((p3 + p4 + p5 + p6) + 256 * (D4 + D6)))) := by clear hD hF hC q1 q2 e1 e2 e3 e4 e5 e6 f2 f4 f6 b1 b2 b3 b4 b5 b6 bC; omega
  have q3 : E / 4294967296 = D4 + D6 := by clear hD hE hF hC q1 q2 e1 e2 e3 e4 e5 e6 f2 f4 f6 d0 d2 d4 b1 b2 b3 b4 b5 b6 bC; omega
  rw [q3] at hF
  have y6 : D6 = (p6 + p7) + 256 * p7 := by clear hD hE hF hC q1 q2 q3 x0 d0 d2 d4 e1 e2 e3 e4 e5; omega
  have z : F % 128 = p0 + p1 + p2 + p3 + p4 + p5 + p6 + p7 := by clear hD hE hC q1 q2 q3 d0 d2 e1 e2 e3 e4 e5 e6 f2 f4 f6 b1 b2 b3 b4 b5 b6 bC; omega
  refine ⟨?_, ?_, ?_, z⟩
  · clear z y6 q3 x0 hE hF d0 d2 d4 f2 f4 f6 q2 e1 e2 e3 e4 e5 e6 hC q1; omega
  · clear z y6 q3 x0 hF d0 d2 d4 f4 f6 q2 e1 e2 e3 e4 e5 e6 hC q1; omega
  · clear z y6 q3 x0 d0 d2 d4 q2 e1 e2 e3 e4 e5 e6 hC q1; omega
theorem pop_add (n s X : Nat) (hs : s < n) (h : X / 2 ^ s % 2 = 0) : pop n (X + 2 ^ s) = pop n X + 1 := by
  induction s generalizing n X with
  | zero =>
    obtain ⟨k, rfl⟩ : ∃ k, n = k + 1 := ⟨n - 1, by omega⟩
    show (X + 1) % 2 + pop k ((X + 1) / 2) = X % 2 + pop k (X / 2) + 1
    have h' : X % 2 = 0 := by simpa using h
    have e : (X + 1) / 2 = X / 2 := by omega
    rw [e]; omega
  | succ s ih =>
    obtain ⟨k, rfl⟩ : ∃ k, n = k + 1 := ⟨n - 1, by omega⟩
    show (X + 2 ^ (s + 1)) % 2 + pop k ((X + 2 ^ (s + 1)) / 2) = X % 2 + pop k (X / 2) + 1
    have e1 : (X + 2 ^ (s + 1)) % 2 = X % 2 := by rw [Nat.pow_succ]; omega
    have e2 : (X + 2 ^ (s + 1)) / 2 = X / 2 + 2 ^ s := by rw [Nat.pow_succ]; omega
    have h' : X / 2 / 2 ^ s % 2 = 0 := by rw [Nat.div_div_eq_div_mul, Nat.mul_comm, ← Nat.pow_succ]; exact h
    rw [e1, e2, ih k (X / 2) (by omega) h']; omega
/-- the count of bits by the five steps of the JDK's body -/
theorem count (X : Nat) (hX : X < 2 ^ 64) (A B C D E F : Nat) (hA : A = X - ((X / 2) &&& 6148914691236517205)) (hB : B = (A &&& 3689348814741910323) + ((A / 4) &&& 3689348814741910323)) (hC : C = (B + B / 16) &&& 1085102592571150095)
    (hD : D = C + C / 256) (hE : E = D + D / 65536) (hF : F = E + E / 4294967296) : D < 2 ^ 64 ∧ E < 2 ^ 64 ∧ F < 2 ^ 64 ∧ F % 128 = pop 64 X := by
  have h := (all_steps 8 X (by simpa using hX)).2
  have eA : s1 8 X = A := by rw [hA]; unfold s1; rw [show m5 8 = 6148914691236517205 from by decide +kernel]
  have eB : s2 8 A = B := by rw [hB]; unfold s2; rw [show m3 8 = 3689348814741910323 from by decide +kernel]
  have eC : s3 8 B = C := by rw [hC]; unfold s3; rw [show mf 8 = 1085102592571150095 from by decide +kernel]
  rw [eA, eB, eC] at h
  have e1 : pop 64 X = pop 8 (X % 256) + pop 56 (X / 256) := pop_8 56 X
  have e2 : pop 56 (X / 256) = pop 8 (X / 256 % 256) + pop 48 (X / 256 / 256) := pop_8 48 _
  have e3 : pop 48 (X / 256 / 256) = pop 8 (X / 256 / 256 % 256) + pop 40 (X / 256 / 256 / 256) := pop_8 40 _
  have e4 : pop 40 (X / 256 / 256 / 256) = pop 8 (X / 256 / 256 / 256 % 256) + pop 32 (X / 256 / 256 / 256 / 256) := pop_8 32 _
  have e5 : pop 32 (X / 256 / 256 / 256 / 256) = pop 8 (X / 256 / 256 / 256 / 256 % 256) + pop 24 (X / 256 / 256 / 256 / 256 / 256) := pop_8 24 _
  have e6 : pop 24 (X / 256 / 256 / 256 / 256 / 256) = pop 8 (X / 256 / 256 / 256 / 256 / 256 % 256) + pop 16 (X / 256 / 256 / 256 / 256 / 256 / 256) := pop_8 16 _
  have e7 : pop 16 (X / 256 / 256 / 256 / 256 / 256 / 256) = pop 8 (X / 256 / 256 / 256 / 256 / 256 / 256 % 256) + pop 8 (X / 256 / 256 / 256 / 256 / 256 / 256 / 256) := pop_8 8 _
  have e8 : pop 8 (X / 256 / 256 / 256 / 256 / 256 / 256 / 256) = pop 8 (X / 256 / 256 / 256 / 256 / 256 / 256 / 256 % 256) + 0 := pop_8 0 _
  have hT : TT 8 X = pop 8 (X % 256) + 256 * (pop 8 (X / 256 % 256) + 256 * (pop 8 (X / 256 / 256 % 256) + 256 * (pop 8 (X / 256 / 256 / 256 % 256) + 256 * (pop 8 (X / 256 / 256 / 256 / 256 % 256) + 256 * (pop 8 (X / 256 / 256 / 256 / 256 / 256 % 256) + 256 * (pop 8 (X / 256 / 256 / 256 / 256 / 256 / 256 % 256) + 256 * pop 8 (X / 256 / 256 / 256 / 256 / 256 / 256 / 256 % 256))))))) := by
    simp only [TT, Nat.mul_zero, Nat.add_zero]
  rw [hT] at h
  have f := fold _ _ _ _ _ _ _ _ C D E F (pop_lt 8 (X % 256)) (pop_lt 8 (X / 256 % 256)) (pop_lt 8 (X / 256 / 256 % 256)) (pop_lt 8 (X / 256 / 256 / 256 % 256)) (pop_lt 8 (X / 256 / 256 / 256 / 256 % 256)) (pop_lt 8 (X / 256 / 256 / 256 / 256 / 256 % 256)) (pop_lt 8 (X / 256 / 256 / 256 / 256 / 256 / 256 % 256)) (pop_lt 8 (X / 256 / 256 / 256 / 256 / 256 / 256 / 256 % 256)) h hD hE hF
  refine ⟨f.1, f.2.1, f.2.2.1, ?_⟩
  rw [f.2.2.2, e1, e2, e3, e4, e5, e6, e7, e8]
  simp only [Nat.add_assoc, Nat.add_zero]
theorem pop_or (n s X : Nat) (hs : s < n) (h : X &&& 2 ^ s = 0) : pop n (X ||| 2 ^ s) = pop n X + 1 := by
  induction s generalizing n X with
  | zero =>
    obtain ⟨k, rfl⟩ : ∃ k, n = k + 1 := ⟨n - 1, by omega⟩
    show (X ||| 1) % 2 + pop k ((X ||| 1) / 2) = X % 2 + pop k (X / 2) + 1
    have h' : X % 2 = 0 := by rw [Nat.pow_zero, Nat.and_one_is_mod] at h; exact h
    have e1 : (X ||| 1) % 2 ^ 1 = X % 2 ^ 1 ||| 1 % 2 ^ 1 := Nat.or_mod_two_pow
    have e2 : (X ||| 1) / 2 ^ 1 = X / 2 ^ 1 ||| 1 / 2 ^ 1 := Nat.or_div_two_pow
    simp only [Nat.pow_one] at e1 e2
    rw [e1, e2, h']
    show (0 ||| 1) + pop k (X / 2 ||| 0) = _
    rw [Nat.or_zero]
    show 1 + pop k (X / 2) = _
    omega
  | succ s ih =>
    obtain ⟨k, rfl⟩ : ∃ k, n = k + 1 := ⟨n - 1, by omega⟩
    show (X ||| 2 ^ (s + 1)) % 2 + pop k ((X ||| 2 ^ (s + 1)) / 2) = X % 2 + pop k (X / 2) + 1
    have p1 : 2 ^ (s + 1) % 2 = 0 := by rw [Nat.pow_succ]; omega
    have p2 : 2 ^ (s + 1) / 2 = 2 ^ s := by rw [Nat.pow_succ]; omega
    have e1 : (X ||| 2 ^ (s + 1)) % 2 ^ 1 = X % 2 ^ 1 ||| 2 ^ (s + 1) % 2 ^ 1 := Nat.or_mod_two_pow
    have e2 : (X ||| 2 ^ (s + 1)) / 2 ^ 1 = X / 2 ^ 1 ||| 2 ^ (s + 1) / 2 ^ 1 := Nat.or_div_two_pow
    have e3 : (X &&& 2 ^ (s + 1)) / 2 ^ 1 = X / 2 ^ 1 &&& 2 ^ (s + 1) / 2 ^ 1 := Nat.and_div_two_pow
    simp only [Nat.pow_one] at e1 e2 e3
    rw [p1, Nat.or_zero] at e1
    rw [p2] at e2 e3
    rw [h, Nat.zero_div] at e3
    rw [e1, e2, ih k (X / 2) (by omega) e3.symm]
    omega
theorem own_ush (x : Int64) (q : Int32) (k : Nat) (hk : q.toBitVec.toNat % 64 = k) : ((x.toUInt64 >>> (q &&& 0x3f).toInt64.toUInt64).toInt64).toBitVec.toNat = x.toBitVec.toNat / 2 ^ k := by
  obtain ⟨h1, h2⟩ := sm64 q k hk
  show (x.toBitVec >>> ((q &&& 0x3f).toInt64.toBitVec.toNat % 64)).toNat = _
  rw [h1, BitVec.toNat_ushiftRight, BitVec.toNat_ofNat, Nat.shiftRight_eq_div_pow]
  congr 2
  omega
theorem own_msk (q : Int32) : ∃ s, s < 64 ∧ ((1 : Int64) <<< (q &&& 0x3f).toInt64).toBitVec.toNat = 2 ^ s := by
  obtain ⟨h1, h2⟩ := sm64 q (q.toBitVec.toNat % 64) rfl
  refine ⟨q.toBitVec.toNat % 64, h2, ?_⟩
  show ((1 : Int64).toBitVec <<< ((q &&& 0x3f).toInt64.toBitVec.smod 64).toNat).toNat = _
  rw [h1, smod64 _ h2, BitVec.toNat_shiftLeft, show (1 : Int64).toBitVec.toNat = 1 from rfl, Nat.shiftLeft_eq, Nat.one_mul]
  exact Nat.mod_eq_of_lt (Nat.pow_lt_pow_right (by decide) h2)
theorem own_toI (x : Int64) : (x.toInt - (x.toBitVec.toNat : Int)) % 18446744073709551616 = 0 := by
  rw [show x.toInt = x.toBitVec.toInt from rfl, BitVec.toInt_eq_toNat_bmod]
  exact bm64 _
theorem own_bc {x x1 x2 x3 x4 x5 x6 : Int64} (e1 : x1 = x - (((x.toUInt64 >>> ((1 : Int32) &&& 0x3f).toInt64.toUInt64).toInt64) &&& (6148914691236517205 : Int64)))
    (e2 : x2 = (x1 &&& (3689348814741910323 : Int64)) + (((x1.toUInt64 >>> ((2 : Int32) &&& 0x3f).toInt64.toUInt64).toInt64) &&& (3689348814741910323 : Int64)))
    (e3 : x3 = (x2 + ((x2.toUInt64 >>> ((4 : Int32) &&& 0x3f).toInt64.toUInt64).toInt64)) &&& (1085102592571150095 : Int64))
    (e4 : x4 = x3 + ((x3.toUInt64 >>> ((8 : Int32) &&& 0x3f).toInt64.toUInt64).toInt64)) (e5 : x5 = x4 + ((x4.toUInt64 >>> ((16 : Int32) &&& 0x3f).toInt64.toUInt64).toInt64)) (e6 : x6 = x5 + ((x5.toUInt64 >>> ((32 : Int32) &&& 0x3f).toInt64.toUInt64).toInt64)) :
    (x6.toInt32 &&& (127 : Int32)).toInt = (pop 64 x.toBitVec.toNat : Int) := by
  have hX : x.toBitVec.toNat < 2 ^ 64 := x.toBitVec.isLt
  have u1 := own_ush x 1 1 (by decide)
  have u2 := own_ush x1 2 2 (by decide)
  rw [show (2 : Nat) ^ 2 = 4 from rfl] at u2
  have u3 := own_ush x2 4 4 (by decide)
  rw [show (2 : Nat) ^ 4 = 16 from rfl] at u3
  have u4 := own_ush x3 8 8 (by decide)
  rw [show (2 : Nat) ^ 8 = 256 from rfl] at u4
  have u5 := own_ush x4 16 16 (by decide)
  rw [show (2 : Nat) ^ 16 = 65536 from rfl] at u5
  have u6 := own_ush x5 32 32 (by decide)
  rw [show (2 : Nat) ^ 32 = 4294967296 from rfl] at u6
  have c5 : (6148914691236517205 : Int64).toBitVec.toNat = 6148914691236517205 := by decide +kernel
  have c3 : (3689348814741910323 : Int64).toBitVec.toNat = 3689348814741910323 := by decide +kernel
  have cf : (1085102592571150095 : Int64).toBitVec.toNat = 1085102592571150095 := by decide +kernel
  have n1 : x1.toBitVec.toNat = x.toBitVec.toNat - ((x.toBitVec.toNat / 2) &&& 6148914691236517205) := by
    have w : (x.toBitVec.toNat / 2) &&& 6148914691236517205 ≤ x.toBitVec.toNat := Nat.le_trans Nat.and_le_left (Nat.div_le_self _ 2)
    rw [e1, Int64.toBitVec_sub, BitVec.toNat_sub, Int64.toBitVec_and, BitVec.toNat_and, u1, c5, Nat.pow_one]
    omega
  have n2 : x2.toBitVec.toNat = (x1.toBitVec.toNat &&& 3689348814741910323) + ((x1.toBitVec.toNat / 4) &&& 3689348814741910323) := by
    have w1 : x1.toBitVec.toNat &&& 3689348814741910323 ≤ 3689348814741910323 := Nat.and_le_right
    have w2 : (x1.toBitVec.toNat / 4) &&& 3689348814741910323 ≤ 3689348814741910323 := Nat.and_le_right
    rw [e2, Int64.toBitVec_add, BitVec.toNat_add, Int64.toBitVec_and, BitVec.toNat_and, Int64.toBitVec_and, BitVec.toNat_and, u2, c3]
    exact Nat.mod_eq_of_lt (by omega)
  have n3 : x3.toBitVec.toNat = (x2.toBitVec.toNat + x2.toBitVec.toNat / 16) &&& 1085102592571150095 := by
    have w1 : x1.toBitVec.toNat &&& 3689348814741910323 ≤ 3689348814741910323 := Nat.and_le_right
    have w2 : (x1.toBitVec.toNat / 4) &&& 3689348814741910323 ≤ 3689348814741910323 := Nat.and_le_right
    rw [e3, Int64.toBitVec_and, BitVec.toNat_and, Int64.toBitVec_add, BitVec.toNat_add, u3, cf, Nat.mod_eq_of_lt (show _ < _ by omega)]
  obtain ⟨b1, b2, b3, b4⟩ := count x.toBitVec.toNat hX _ _ _ _ _ _ n1 n2 n3 rfl rfl rfl
  have n4 : x4.toBitVec.toNat = x3.toBitVec.toNat + x3.toBitVec.toNat / 256 := by
    rw [e4, Int64.toBitVec_add, BitVec.toNat_add, u4]
    exact Nat.mod_eq_of_lt b1
  rw [← n4] at b2 b3 b4
  have n5 : x5.toBitVec.toNat = x4.toBitVec.toNat + x4.toBitVec.toNat / 65536 := by
    rw [e5, Int64.toBitVec_add, BitVec.toNat_add, u5]
    exact Nat.mod_eq_of_lt b2
  rw [← n5] at b3 b4
  have n6 : x6.toBitVec.toNat = x5.toBitVec.toNat + x5.toBitVec.toNat / 4294967296 := by
    rw [e6, Int64.toBitVec_add, BitVec.toNat_add, u6]
    exact Nat.mod_eq_of_lt b3
  rw [← n6] at b4
  have h := c_mask x6.toInt32 127 7 (by decide) (by decide)
  have h1 := c_l2i x6
  have h2 := own_toI x6
  rw [h, ← b4]
  omega
def cnt (f : Nat → Int64) : Nat → Int64
  | 0 => 0
  | k + 1 => cnt f k + Int64.ofNat (pop 64 (f k).toBitVec.toNat)
theorem own_cnt0 (f g : Nat → Int64) (m : Nat) (n : Nat) (h : ∀ i, i ≠ m → g i = f i) (hn : n ≤ m) : cnt g n = cnt f n := by
  induction n with
  | zero => rfl
  | succ n ih => show cnt g n + _ = cnt f n + _; rw [ih (by omega), h n (by omega)]
theorem own_cnt (f g : Nat → Int64) (m : Nat) (n : Nat) (h : ∀ i, i ≠ m → g i = f i) (hm : m < n) : cnt g n + Int64.ofNat (pop 64 (f m).toBitVec.toNat) = cnt f n + Int64.ofNat (pop 64 (g m).toBitVec.toNat) := by
  induction n with
  | zero => omega
  | succ n ih =>
    show cnt g n + _ + _ = cnt f n + _ + _
    by_cases e : m = n
    · subst e
      rw [own_cnt0 f g m m h (Nat.le_refl _), Int64.add_assoc, Int64.add_assoc, Int64.add_comm (Int64.ofNat (pop 64 (g m).toBitVec.toNat))]
    · rw [h n (fun q => e q.symm), Int64.add_assoc, Int64.add_comm (Int64.ofNat (pop 64 (f n).toBitVec.toNat)), ← Int64.add_assoc, ih (by omega), Int64.add_assoc, Int64.add_assoc, Int64.add_comm (Int64.ofNat (pop 64 (g m).toBitVec.toNat))]
theorem own_cancel {a b : Int64} {P : Nat} (h : a + Int64.ofNat P = b + Int64.ofNat P) : a = b := by
  have := congrArg (fun z => z - Int64.ofNat P) h
  simpa [Int64.add_sub_cancel] using this
theorem own_pop (c : Int64) (q : Int32) (h : c &&& ((1 : Int64) <<< (q &&& 0x3f).toInt64) = 0) : pop 64 (c ||| ((1 : Int64) <<< (q &&& 0x3f).toInt64)).toBitVec.toNat = pop 64 c.toBitVec.toNat + 1 := by
  obtain ⟨s, hs, e⟩ := own_msk q
  rw [Int64.toBitVec_or, BitVec.toNat_or, e]
  apply pop_or 64 s _ hs
  have h1 := congrArg (fun z : Int64 => z.toBitVec.toNat) h
  simp only [Int64.toBitVec_and, BitVec.toNat_and, e] at h1
  exact h1
theorem own_or (c m : Int64) (q : Int32) (hm : m = (1 : Int64) <<< (q &&& 0x3f).toInt64) (h : c &&& m ≠ 0) : c ||| m = c := by
  obtain ⟨s, hs, e⟩ := own_msk q
  rw [← hm] at e
  apply Int64.toBitVec_inj.mp
  apply BitVec.eq_of_toNat_eq
  rw [Int64.toBitVec_or, BitVec.toNat_or, e]
  have ht : c.toBitVec.toNat.testBit s = true := by
    rcases Bool.eq_false_or_eq_true (c.toBitVec.toNat.testBit s) with t | t
    · exact t
    · exfalso
      apply h
      apply Int64.toBitVec_inj.mp
      apply BitVec.eq_of_toNat_eq
      rw [Int64.toBitVec_and, BitVec.toNat_and, e]
      show _ = 0
      apply Nat.eq_of_testBit_eq
      intro i
      rw [Nat.testBit_and, Nat.testBit_two_pow, Nat.zero_testBit]
      by_cases z : s = i
      · subst z; rw [t]; rfl
      · simp [z]
  apply Nat.eq_of_testBit_eq
  intro i
  rw [Nat.testBit_or, Nat.testBit_two_pow]
  by_cases z : s = i
  · subst z; rw [ht]; rfl
  · simp [z]
theorem d2_0 : decode jdk_35_method_50_code 0 = .ok (.lload_n 0, 1) := by decide +kernel
theorem d2_1 : decode jdk_35_method_50_code 1 = .ok (.lload_n 0, 1) := by decide +kernel
theorem d2_2 : decode jdk_35_method_50_code 2 = .ok (.iconst 1, 1) := by decide +kernel
theorem d2_3 : decode jdk_35_method_50_code 3 = .ok (.lushr, 1) := by decide +kernel
theorem d2_4 : decode jdk_35_method_50_code 4 = .ok (.ldc2_w 314, 3) := by decide +kernel
theorem d2_7 : decode jdk_35_method_50_code 7 = .ok (.land, 1) := by decide +kernel
theorem d2_8 : decode jdk_35_method_50_code 8 = .ok (.lsub, 1) := by decide +kernel
theorem d2_9 : decode jdk_35_method_50_code 9 = .ok (.lstore_n 0, 1) := by decide +kernel
theorem d2_10 : decode jdk_35_method_50_code 10 = .ok (.lload_n 0, 1) := by decide +kernel
theorem d2_11 : decode jdk_35_method_50_code 11 = .ok (.ldc2_w 316, 3) := by decide +kernel
theorem d2_14 : decode jdk_35_method_50_code 14 = .ok (.land, 1) := by decide +kernel
theorem d2_15 : decode jdk_35_method_50_code 15 = .ok (.lload_n 0, 1) := by decide +kernel
theorem d2_16 : decode jdk_35_method_50_code 16 = .ok (.iconst 2, 1) := by decide +kernel
theorem d2_17 : decode jdk_35_method_50_code 17 = .ok (.lushr, 1) := by decide +kernel
theorem d2_18 : decode jdk_35_method_50_code 18 = .ok (.ldc2_w 316, 3) := by decide +kernel
theorem d2_21 : decode jdk_35_method_50_code 21 = .ok (.land, 1) := by decide +kernel
theorem d2_22 : decode jdk_35_method_50_code 22 = .ok (.ladd, 1) := by decide +kernel
theorem d2_23 : decode jdk_35_method_50_code 23 = .ok (.lstore_n 0, 1) := by decide +kernel
theorem d2_24 : decode jdk_35_method_50_code 24 = .ok (.lload_n 0, 1) := by decide +kernel
theorem d2_25 : decode jdk_35_method_50_code 25 = .ok (.lload_n 0, 1) := by decide +kernel
theorem d2_26 : decode jdk_35_method_50_code 26 = .ok (.iconst 4, 1) := by decide +kernel
theorem d2_27 : decode jdk_35_method_50_code 27 = .ok (.lushr, 1) := by decide +kernel
theorem d2_28 : decode jdk_35_method_50_code 28 = .ok (.ladd, 1) := by decide +kernel
theorem d2_29 : decode jdk_35_method_50_code 29 = .ok (.ldc2_w 318, 3) := by decide +kernel
theorem d2_32 : decode jdk_35_method_50_code 32 = .ok (.land, 1) := by decide +kernel
theorem d2_33 : decode jdk_35_method_50_code 33 = .ok (.lstore_n 0, 1) := by decide +kernel
theorem d2_34 : decode jdk_35_method_50_code 34 = .ok (.lload_n 0, 1) := by decide +kernel
theorem d2_35 : decode jdk_35_method_50_code 35 = .ok (.lload_n 0, 1) := by decide +kernel
theorem d2_36 : decode jdk_35_method_50_code 36 = .ok (.bipush 8, 2) := by decide +kernel
theorem d2_38 : decode jdk_35_method_50_code 38 = .ok (.lushr, 1) := by decide +kernel
theorem d2_39 : decode jdk_35_method_50_code 39 = .ok (.ladd, 1) := by decide +kernel
theorem d2_40 : decode jdk_35_method_50_code 40 = .ok (.lstore_n 0, 1) := by decide +kernel
theorem d2_41 : decode jdk_35_method_50_code 41 = .ok (.lload_n 0, 1) := by decide +kernel
theorem d2_42 : decode jdk_35_method_50_code 42 = .ok (.lload_n 0, 1) := by decide +kernel
theorem d2_43 : decode jdk_35_method_50_code 43 = .ok (.bipush 16, 2) := by decide +kernel
theorem d2_45 : decode jdk_35_method_50_code 45 = .ok (.lushr, 1) := by decide +kernel
theorem d2_46 : decode jdk_35_method_50_code 46 = .ok (.ladd, 1) := by decide +kernel
theorem d2_47 : decode jdk_35_method_50_code 47 = .ok (.lstore_n 0, 1) := by decide +kernel
theorem d2_48 : decode jdk_35_method_50_code 48 = .ok (.lload_n 0, 1) := by decide +kernel
theorem d2_49 : decode jdk_35_method_50_code 49 = .ok (.lload_n 0, 1) := by decide +kernel
theorem d2_50 : decode jdk_35_method_50_code 50 = .ok (.bipush 32, 2) := by decide +kernel
theorem d2_52 : decode jdk_35_method_50_code 52 = .ok (.lushr, 1) := by decide +kernel
theorem d2_53 : decode jdk_35_method_50_code 53 = .ok (.ladd, 1) := by decide +kernel
theorem d2_54 : decode jdk_35_method_50_code 54 = .ok (.lstore_n 0, 1) := by decide +kernel
theorem d2_55 : decode jdk_35_method_50_code 55 = .ok (.lload_n 0, 1) := by decide +kernel
theorem d2_56 : decode jdk_35_method_50_code 56 = .ok (.l2i, 1) := by decide +kernel
theorem d2_57 : decode jdk_35_method_50_code 57 = .ok (.bipush 127, 2) := by decide +kernel
theorem d2_59 : decode jdk_35_method_50_code 59 = .ok (.iand, 1) := by decide +kernel
theorem d2_60 : decode jdk_35_method_50_code 60 = .ok (.ireturn, 1) := by decide +kernel
theorem pn_2 : plainFor (⟨"java/lang/Long", "bitCount", "(J)I"⟩ : MethodName) = true := plainFor_of_name (by first | (simp [plainName, overriddenIn]; done) | decide +kernel)
theorem ef_2 (m : MethodId) (q0 : Int64) : entryFrame m #[(.long q0)] 2 = mkF m 0 #[.val (.long q0), .second] [] := by first | (simp [entryFrame, mkF, argsToLocals, Value.category]; done) | rfl
def Qq2 (Z : State) (q0 : Int64)  (h0 : Heap) : Int32 → Heap → Prop := fun z h' => h0 = h' ∧ z.toInt = (pop 64 q0.toBitVec.toNat : Int)
abbrev Gg2 (p : Program) (l : Launch) (e : Env) (s : State) (m : MethodId) (below : List Frame) (meth : Method) (c : Code) (n0 : Nat) (h0 : Heap) (Z : State) (q0 : Int64)  (cc ss : Nat) (hh : Heap) (gg : JFrame) : Prop := G p l e ({ frames := 0, cells := 0, slots := 0, locals := 0 } : Room) s m #[(.long q0)] below meth c n0 h0 [] (RI (Qq2 Z q0  h0)) cc ss hh gg
set_option maxRecDepth 65536 in
set_option maxHeartbeats 40000000 in
theorem rm2 (l : Launch) (Z : State) (a0 : Array Value) (hw : ∀ d ∈ tables_1, d.before a0 Z = true) (q0 : Int64)  (h0 : Heap) (n0 : Nat) (hn : n0 ≤ h0.size)  :
    Mt l Z (⟨"java/lang/Long", "bitCount", "(J)I"⟩ : MethodName) jdk_35_method_50_code 2 (some .int) [] ({ frames := 0, cells := 0, slots := 0, locals := 0 } : Room) n0 #[(.long q0)] h0 [] (RI (Qq2 Z q0  h0)) := by
  refine Mt.intro pn_2 hn (fun x hx => nomatch hx) ?_
  have hz : h0.size ≤ h0.size := Nat.le_refl _
  intro p e s m below meth c B
  refine G.entry (ef_2 m q0) ?_
  show Gg2 p l e s m below meth c n0 h0 Z q0  0 0 h0 (mkF m 0 #[.val (.long q0), .second] [])
  refine G.lloadN B d2_0 (v := q0) rfl (pc' := 1) rfl ?_
  refine G.lloadN B d2_1 (v := q0) rfl (pc' := 2) rfl ?_
  refine G.iconst B d2_2 (z := (1 : Int32)) rfl (pc' := 3) rfl ?_
  refine G.lushr B d2_3 (pc' := 4) rfl ?_
  refine G.ldc2 B (hw _ (List.mem_of_getElem? (i := 9) rfl)) d2_4 (pc' := 7) rfl ?_
  refine G.land B d2_7 (pc' := 8) rfl ?_
  refine G.lsub B d2_8 (pc' := 9) rfl ?_
  refine G.lstoreN B d2_9 (ls' := #[.val (.long (q0 - (((q0.toUInt64 >>> ((1 : Int32) &&& 0x3f).toInt64.toUInt64).toInt64) &&& (6148914691236517205 : Int64)))), .second]) rfl (pc' := 10) rfl ?_
  obtain ⟨x1, e_x1⟩ : ∃ z, z = (q0 - (((q0.toUInt64 >>> ((1 : Int32) &&& 0x3f).toInt64.toUInt64).toInt64) &&& (6148914691236517205 : Int64))) := ⟨_, rfl⟩
  rw [← e_x1]
  show Gg2 p l e s m below meth c n0 h0 Z q0  0 0 h0 (mkF m 10 #[.val (.long x1), .second] [])
  refine G.lloadN B d2_10 (v := x1) rfl (pc' := 11) rfl ?_
  refine G.ldc2 B (hw _ (List.mem_of_getElem? (i := 10) rfl)) d2_11 (pc' := 14) rfl ?_
  refine G.land B d2_14 (pc' := 15) rfl ?_
  refine G.lloadN B d2_15 (v := x1) rfl (pc' := 16) rfl ?_
  refine G.iconst B d2_16 (z := (2 : Int32)) rfl (pc' := 17) rfl ?_
  refine G.lushr B d2_17 (pc' := 18) rfl ?_
  refine G.ldc2 B (hw _ (List.mem_of_getElem? (i := 10) rfl)) d2_18 (pc' := 21) rfl ?_
  refine G.land B d2_21 (pc' := 22) rfl ?_
  refine G.ladd B d2_22 (pc' := 23) rfl ?_
  refine G.lstoreN B d2_23 (ls' := #[.val (.long ((x1 &&& (3689348814741910323 : Int64)) + (((x1.toUInt64 >>> ((2 : Int32) &&& 0x3f).toInt64.toUInt64).toInt64) &&& (3689348814741910323 : Int64)))), .second]) rfl (pc' := 24) rfl ?_
  obtain ⟨x2, e_x2⟩ : ∃ z, z = ((x1 &&& (3689348814741910323 : Int64)) + (((x1.toUInt64 >>> ((2 : Int32) &&& 0x3f).toInt64.toUInt64).toInt64) &&& (3689348814741910323 : Int64))) := ⟨_, rfl⟩
  rw [← e_x2]
  show Gg2 p l e s m below meth c n0 h0 Z q0  0 0 h0 (mkF m 24 #[.val (.long x2), .second] [])
  refine G.lloadN B d2_24 (v := x2) rfl (pc' := 25) rfl ?_
  refine G.lloadN B d2_25 (v := x2) rfl (pc' := 26) rfl ?_
  refine G.iconst B d2_26 (z := (4 : Int32)) rfl (pc' := 27) rfl ?_
  refine G.lushr B d2_27 (pc' := 28) rfl ?_
  refine G.ladd B d2_28 (pc' := 29) rfl ?_
  refine G.ldc2 B (hw _ (List.mem_of_getElem? (i := 11) rfl)) d2_29 (pc' := 32) rfl ?_
  refine G.land B d2_32 (pc' := 33) rfl ?_
  refine G.lstoreN B d2_33 (ls' := #[.val (.long ((x2 + ((x2.toUInt64 >>> ((4 : Int32) &&& 0x3f).toInt64.toUInt64).toInt64)) &&& (1085102592571150095 : Int64))), .second]) rfl (pc' := 34) rfl ?_
  obtain ⟨x3, e_x3⟩ : ∃ z, z = ((x2 + ((x2.toUInt64 >>> ((4 : Int32) &&& 0x3f).toInt64.toUInt64).toInt64)) &&& (1085102592571150095 : Int64)) := ⟨_, rfl⟩
  rw [← e_x3]
  show Gg2 p l e s m below meth c n0 h0 Z q0  0 0 h0 (mkF m 34 #[.val (.long x3), .second] [])
  refine G.lloadN B d2_34 (v := x3) rfl (pc' := 35) rfl ?_
  refine G.lloadN B d2_35 (v := x3) rfl (pc' := 36) rfl ?_
  refine G.bipush B d2_36 (z := (8 : Int32)) rfl (pc' := 38) rfl ?_
  refine G.lushr B d2_38 (pc' := 39) rfl ?_
  refine G.ladd B d2_39 (pc' := 40) rfl ?_
  refine G.lstoreN B d2_40 (ls' := #[.val (.long (x3 + ((x3.toUInt64 >>> ((8 : Int32) &&& 0x3f).toInt64.toUInt64).toInt64))), .second]) rfl (pc' := 41) rfl ?_
  obtain ⟨x4, e_x4⟩ : ∃ z, z = (x3 + ((x3.toUInt64 >>> ((8 : Int32) &&& 0x3f).toInt64.toUInt64).toInt64)) := ⟨_, rfl⟩
  rw [← e_x4]
  show Gg2 p l e s m below meth c n0 h0 Z q0  0 0 h0 (mkF m 41 #[.val (.long x4), .second] [])
  refine G.lloadN B d2_41 (v := x4) rfl (pc' := 42) rfl ?_
  refine G.lloadN B d2_42 (v := x4) rfl (pc' := 43) rfl ?_
  refine G.bipush B d2_43 (z := (16 : Int32)) rfl (pc' := 45) rfl ?_
  refine G.lushr B d2_45 (pc' := 46) rfl ?_
  refine G.ladd B d2_46 (pc' := 47) rfl ?_
  refine G.lstoreN B d2_47 (ls' := #[.val (.long (x4 + ((x4.toUInt64 >>> ((16 : Int32) &&& 0x3f).toInt64.toUInt64).toInt64))), .second]) rfl (pc' := 48) rfl ?_
  obtain ⟨x5, e_x5⟩ : ∃ z, z = (x4 + ((x4.toUInt64 >>> ((16 : Int32) &&& 0x3f).toInt64.toUInt64).toInt64)) := ⟨_, rfl⟩
  rw [← e_x5]
  show Gg2 p l e s m below meth c n0 h0 Z q0  0 0 h0 (mkF m 48 #[.val (.long x5), .second] [])
  refine G.lloadN B d2_48 (v := x5) rfl (pc' := 49) rfl ?_
  refine G.lloadN B d2_49 (v := x5) rfl (pc' := 50) rfl ?_
  refine G.bipush B d2_50 (z := (32 : Int32)) rfl (pc' := 52) rfl ?_
  refine G.lushr B d2_52 (pc' := 53) rfl ?_
  refine G.ladd B d2_53 (pc' := 54) rfl ?_
  refine G.lstoreN B d2_54 (ls' := #[.val (.long (x5 + ((x5.toUInt64 >>> ((32 : Int32) &&& 0x3f).toInt64.toUInt64).toInt64))), .second]) rfl (pc' := 55) rfl ?_
  obtain ⟨x6, e_x6⟩ : ∃ z, z = (x5 + ((x5.toUInt64 >>> ((32 : Int32) &&& 0x3f).toInt64.toUInt64).toInt64)) := ⟨_, rfl⟩
  rw [← e_x6]
  show Gg2 p l e s m below meth c n0 h0 Z q0  0 0 h0 (mkF m 55 #[.val (.long x6), .second] [])
  refine G.lloadN B d2_55 (v := x6) rfl (pc' := 56) rfl ?_
  refine G.l2i B d2_56 (pc' := 57) rfl ?_
  refine G.bipush B d2_57 (z := (127 : Int32)) rfl (pc' := 59) rfl ?_
  refine G.iand B d2_59 (pc' := 60) rfl ?_
  exact G.retI B d2_60 (by decide) (by decide) ⟨rfl, own_bc e_x1 e_x2 e_x3 e_x4 e_x5 e_x6⟩
theorem own_bl {z : Int32} {P : Nat} (h : z.toInt = (P : Int)) (hP : P ≤ 64) : z.toInt64 = Int64.ofNat P := by
  apply Int64.toInt_inj.mp
  rw [c_i2l, h, Int64.toInt_ofNat_of_lt (by omega)]
theorem own_inc {x : Int32} {i : Nat} (h : x.toInt = (i : Int)) (hi : i < 1000) : (x + (1 : Int32)).toInt = ((i + 1 : Nat) : Int) := by
  have h1 := c_iadd x (1 : Int32)
  have h2 : (1 : Int32).toInt = 1 := by decide
  have h3 := rng32 (x + (1 : Int32))
  omega
theorem d1_0 : decode prog_37_method_6_code 0 = .ok (.lconst 0, 1) := by decide +kernel
theorem d1_1 : decode prog_37_method_6_code 1 = .ok (.lstore_n 1, 1) := by decide +kernel
theorem d1_2 : decode prog_37_method_6_code 2 = .ok (.aload_n 0, 1) := by decide +kernel
theorem d1_3 : decode prog_37_method_6_code 3 = .ok (.astore_n 3, 1) := by decide +kernel
theorem d1_4 : decode prog_37_method_6_code 4 = .ok (.aload_n 3, 1) := by decide +kernel
theorem d1_5 : decode prog_37_method_6_code 5 = .ok (.arraylength, 1) := by decide +kernel
theorem d1_6 : decode prog_37_method_6_code 6 = .ok (.istore 4, 2) := by decide +kernel
theorem d1_8 : decode prog_37_method_6_code 8 = .ok (.iconst 0, 1) := by decide +kernel
theorem d1_9 : decode prog_37_method_6_code 9 = .ok (.istore 5, 2) := by decide +kernel
theorem d1_11 : decode prog_37_method_6_code 11 = .ok (.iload 5, 2) := by decide +kernel
theorem d1_13 : decode prog_37_method_6_code 13 = .ok (.iload 4, 2) := by decide +kernel
theorem d1_15 : decode prog_37_method_6_code 15 = .ok (.if_icmp .ge 24, 3) := by decide +kernel
theorem d1_18 : decode prog_37_method_6_code 18 = .ok (.aload_n 3, 1) := by decide +kernel
theorem d1_19 : decode prog_37_method_6_code 19 = .ok (.iload 5, 2) := by decide +kernel
theorem d1_21 : decode prog_37_method_6_code 21 = .ok (.laload, 1) := by decide +kernel
theorem d1_22 : decode prog_37_method_6_code 22 = .ok (.lstore 6, 2) := by decide +kernel
theorem d1_24 : decode prog_37_method_6_code 24 = .ok (.lload_n 1, 1) := by decide +kernel
theorem d1_25 : decode prog_37_method_6_code 25 = .ok (.lload 6, 2) := by decide +kernel
theorem d1_27 : decode prog_37_method_6_code 27 = .ok (.invokestatic 73, 3) := by decide +kernel
theorem d1_30 : decode prog_37_method_6_code 30 = .ok (.i2l, 1) := by decide +kernel
theorem d1_31 : decode prog_37_method_6_code 31 = .ok (.ladd, 1) := by decide +kernel
theorem d1_32 : decode prog_37_method_6_code 32 = .ok (.lstore_n 1, 1) := by decide +kernel
theorem d1_33 : decode prog_37_method_6_code 33 = .ok (.iinc 5 1, 3) := by decide +kernel
theorem d1_36 : decode prog_37_method_6_code 36 = .ok (.goto (-25), 3) := by decide +kernel
theorem d1_39 : decode prog_37_method_6_code 39 = .ok (.lload_n 1, 1) := by decide +kernel
theorem d1_40 : decode prog_37_method_6_code 40 = .ok (.lreturn, 1) := by decide +kernel
theorem pn_1 : plainFor (⟨"com/example/taut_keyring/tautkeyring/ReachWindow", "count", "([J)J"⟩ : MethodName) = true := plainFor_of_name (by first | (simp [plainName, overriddenIn]; done) | decide +kernel)
theorem ef_1 (m : MethodId) (r0 : Addr) : entryFrame m #[(.ref r0)] 8 = mkF m 0 #[.val (.ref r0), .unset, .unset, .unset, .unset, .unset, .unset, .unset] [] := by first | (simp [entryFrame, mkF, argsToLocals, Value.category]; done) | rfl
theorem pd_0 : parseMethodDescriptor "(J)I" = some ⟨[.long], some .int⟩ := by decide +kernel
def Qq1 (Z : State) (r0 : Addr) (f : Nat → Int64) (h0 : Heap) : Int64 → Heap → Prop := fun r h' => h0 = h' ∧ r = cnt f 64
abbrev Gg1 (p : Program) (l : Launch) (e : Env) (s : State) (m : MethodId) (below : List Frame) (meth : Method) (c : Code) (n0 : Nat) (h0 : Heap) (Z : State) (r0 : Addr) (f : Nat → Int64) (cc ss : Nat) (hh : Heap) (gg : JFrame) : Prop := G p l e ({ frames := 1, cells := 0, slots := 0, locals := 15 } : Room) s m #[(.ref r0)] below meth c n0 h0 [] (RJ (Qq1 Z r0 f h0)) cc ss hh gg
set_option maxRecDepth 65536 in
set_option maxHeartbeats 40000000 in
theorem rm1 (l : Launch) (Z : State) (a0 : Array Value) (hw : ∀ d ∈ tables_1, d.before a0 Z = true) (r0 : Addr) (f : Nat → Int64) (h0 : Heap) (n0 : Nat) (hn : n0 ≤ h0.size) (A : ArJ Z h0 r0 64 f) :
    Mt l Z (⟨"com/example/taut_keyring/tautkeyring/ReachWindow", "count", "([J)J"⟩ : MethodName) prog_37_method_6_code 8 (some .long) [] ({ frames := 1, cells := 0, slots := 0, locals := 15 } : Room) n0 #[(.ref r0)] h0 [] (RJ (Qq1 Z r0 f h0)) := by
  refine Mt.intro pn_1 hn (fun x hx => nomatch hx) ?_
  have hz : h0.size ≤ h0.size := Nat.le_refl _
  intro p e s m below meth c B
  refine G.entry (ef_1 m r0) ?_
  show Gg1 p l e s m below meth c n0 h0 Z r0 f 0 0 h0 (mkF m 0 #[.val (.ref r0), .unset, .unset, .unset, .unset, .unset, .unset, .unset] [])
  refine G.lconst B d1_0 (z := (0 : Int64)) rfl (pc' := 1) rfl ?_
  refine G.lstoreN B d1_1 (ls' := #[.val (.ref r0), .val (.long (0 : Int64)), .second, .unset, .unset, .unset, .unset, .unset]) rfl (pc' := 2) rfl ?_
  refine G.aloadN B d1_2 (v := (.ref r0)) rfl rfl (pc' := 3) rfl ?_
  refine G.astoreN B d1_3 rfl (ls' := #[.val (.ref r0), .val (.long (0 : Int64)), .second, .val (.ref r0), .unset, .unset, .unset, .unset]) rfl (pc' := 4) rfl ?_
  refine G.aloadN B d1_4 (v := (.ref r0)) rfl rfl (pc' := 5) rfl ?_
  refine G.lenJ B A (z := (64 : Int32)) rfl d1_5 (pc' := 6) rfl ?_
  refine G.istore B d1_6 (ls' := #[.val (.ref r0), .val (.long (0 : Int64)), .second, .val (.ref r0), .val (.int (64 : Int32)), .unset, .unset, .unset]) rfl (pc' := 8) rfl ?_
  refine G.iconst B d1_8 (z := (0 : Int32)) rfl (pc' := 9) rfl ?_
  refine G.istore B d1_9 (ls' := #[.val (.ref r0), .val (.long (0 : Int64)), .second, .val (.ref r0), .val (.int (64 : Int32)), .val (.int (0 : Int32)), .unset, .unset]) rfl (pc' := 11) rfl ?_
  have loop : ∀ (k : Nat) (i : Nat) (acc : Int64) (ii : Int32) (w : Int64), (i + k = 64) → (acc = cnt f i) → (ii.toInt = (i : Int)) → Gg1 p l e s m below meth c n0 h0 Z r0 f 0 0 h0 (mkF m 11 #[.val (.ref r0), .val (.long acc), .second, .val (.ref r0), .val (.int (64 : Int32)), .val (.int ii), .val (.long w), .second] []) := by
    intro k
    induction k with
    | zero =>
      intro i acc ii w hi hacc hii
      rw [Nat.add_zero] at hi
      refine G.iload B d1_11 (v := ii) rfl (pc' := 13) rfl ?_
      refine G.iload B d1_13 (v := (64 : Int32)) rfl (pc' := 15) rfl ?_
      have hc15 : 64 ≤ ii.toInt := by omega
      refine G.icmp_ge B d1_15 (by decide) (pcT := 39) (by decide) (pc' := 18) rfl (fun _ => ?_) (fun q => absurd q (by first | exact Int.not_lt.mpr hc15 | exact Int.not_le.mpr hc15))
      refine G.lloadN B d1_39 (v := acc) rfl (pc' := 40) rfl ?_
      exact G.retJ B d1_40 (by decide) (by decide) ⟨rfl, by subst hi; exact hacc⟩
    | succ k ih =>
      intro i acc ii w hi hacc hii
      refine G.iload B d1_11 (v := ii) rfl (pc' := 13) rfl ?_
      refine G.iload B d1_13 (v := (64 : Int32)) rfl (pc' := 15) rfl ?_
      have hc15 : ii.toInt < 64 := by omega
      refine G.icmp_ge B d1_15 (by decide) (pcT := 39) (by decide) (pc' := 18) rfl (fun q => absurd q (by first | exact Int.not_lt.mpr hc15 | exact Int.not_le.mpr hc15)) (fun _ => ?_)
      refine G.aloadN B d1_18 (v := (.ref r0)) rfl rfl (pc' := 19) rfl ?_
      refine G.iload B d1_19 (v := ii) rfl (pc' := 21) rfl ?_
      refine G.ldJ B A (i := i) hii (by omega) (x := (f i)) rfl d1_21 (pc' := 22) rfl ?_
      refine G.lstore B d1_22 (ls' := #[.val (.ref r0), .val (.long acc), .second, .val (.ref r0), .val (.int (64 : Int32)), .val (.int ii), .val (.long (f i)), .second]) rfl (pc' := 24) rfl ?_
      refine G.lloadN B d1_24 (v := acc) rfl (pc' := 25) rfl ?_
      refine G.lload B d1_25 (v := (f i)) rfl (pc' := 27) rfl ?_
      refine G.callS (y := (⟨"java/lang/Long", "bitCount", "(J)I"⟩ : MethodName)) B (hw _ (List.mem_of_getElem? (i := 5) rfl)) (hw _ (List.mem_of_getElem? (i := 6) rfl)) (rm := ({ frames := 0, cells := 0, slots := 0, locals := 0 } : Room)) (ws' := []) (rm2 l Z a0 hw (f i) _ n0 hn) (fun x hx => nomatch hx) (hw _ (List.mem_of_getElem? (i := 8) rfl)) (hw _ (List.mem_of_getElem? (i := 7) rfl)) (by decide) rfl (argsL := [(.long (f i))]) (rest := [(.long acc)]) rfl (lenOf pd_0 rfl) (by decide) (W := 2) (Nat.le_of_eq rfl) (by decide) (by decide) (by decide) d1_27 (pc' := 30) rfl ?_
      rintro _ _ K1 ⟨z, rfl, rfl, hz_⟩
      show Gg1 p l e s m below meth c n0 h0 Z r0 f 0 0 h0 (mkF m 30 #[.val (.ref r0), .val (.long acc), .second, .val (.ref r0), .val (.int (64 : Int32)), .val (.int ii), .val (.long (f i)), .second] [(.int z), (.long acc)])
      refine G.i2l B d1_30 (pc' := 31) rfl ?_
      refine G.ladd B d1_31 (pc' := 32) rfl ?_
      refine G.lstoreN B d1_32 (ls' := #[.val (.ref r0), .val (.long (acc + (z.toInt64))), .second, .val (.ref r0), .val (.int (64 : Int32)), .val (.int ii), .val (.long (f i)), .second]) rfl (pc' := 33) rfl ?_
      refine G.iinc B d1_33 (x := ii) rfl (z := (ii + (1 : Int32))) rfl (ls' := #[.val (.ref r0), .val (.long (acc + (z.toInt64))), .second, .val (.ref r0), .val (.int (64 : Int32)), .val (.int (ii + (1 : Int32))), .val (.long (f i)), .second]) rfl (pc' := 36) rfl ?_
      refine G.goto B d1_36 (by decide) (pc' := 11) (by decide) ?_
      have hb := own_bl hz_ (pop_lt 64 _)
      exact ih (i + 1) _ _ (f i) (by omega) (by rw [hacc, hb]; rfl) (own_inc hii (by omega))
  have hii : (0 : Int32).toInt = ((0 : Nat) : Int) := by decide
  refine G.iload B d1_11 (v := (0 : Int32)) rfl (pc' := 13) rfl ?_
  refine G.iload B d1_13 (v := (64 : Int32)) rfl (pc' := 15) rfl ?_
  have hc15 : (0 : Int) < (64 : Int) := by omega
  refine G.icmp_ge B d1_15 (by decide) (pcT := 39) (by decide) (pc' := 18) rfl (fun q => absurd q (by first | exact Int.not_lt.mpr hc15 | exact Int.not_le.mpr hc15)) (fun _ => ?_)
  refine G.aloadN B d1_18 (v := (.ref r0)) rfl rfl (pc' := 19) rfl ?_
  refine G.iload B d1_19 (v := (0 : Int32)) rfl (pc' := 21) rfl ?_
  refine G.ldJ B A (i := 0) hii (by omega) (x := (f 0)) rfl d1_21 (pc' := 22) rfl ?_
  refine G.lstore B d1_22 (ls' := #[.val (.ref r0), .val (.long (0 : Int64)), .second, .val (.ref r0), .val (.int (64 : Int32)), .val (.int (0 : Int32)), .val (.long (f 0)), .second]) rfl (pc' := 24) rfl ?_
  refine G.lloadN B d1_24 (v := (0 : Int64)) rfl (pc' := 25) rfl ?_
  refine G.lload B d1_25 (v := (f 0)) rfl (pc' := 27) rfl ?_
  refine G.callS (y := (⟨"java/lang/Long", "bitCount", "(J)I"⟩ : MethodName)) B (hw _ (List.mem_of_getElem? (i := 5) rfl)) (hw _ (List.mem_of_getElem? (i := 6) rfl)) (rm := ({ frames := 0, cells := 0, slots := 0, locals := 0 } : Room)) (ws' := []) (rm2 l Z a0 hw (f 0) _ n0 hn) (fun x hx => nomatch hx) (hw _ (List.mem_of_getElem? (i := 8) rfl)) (hw _ (List.mem_of_getElem? (i := 7) rfl)) (by decide) rfl (argsL := [(.long (f 0))]) (rest := [(.long (0 : Int64))]) rfl (lenOf pd_0 rfl) (by decide) (W := 2) (Nat.le_of_eq rfl) (by decide) (by decide) (by decide) d1_27 (pc' := 30) rfl ?_
  rintro _ _ K2 ⟨z, rfl, rfl, hz_⟩
  show Gg1 p l e s m below meth c n0 h0 Z r0 f 0 0 h0 (mkF m 30 #[.val (.ref r0), .val (.long (0 : Int64)), .second, .val (.ref r0), .val (.int (64 : Int32)), .val (.int (0 : Int32)), .val (.long (f 0)), .second] [(.int z), (.long (0 : Int64))])
  refine G.i2l B d1_30 (pc' := 31) rfl ?_
  refine G.ladd B d1_31 (pc' := 32) rfl ?_
  refine G.lstoreN B d1_32 (ls' := #[.val (.ref r0), .val (.long ((0 : Int64) + (z.toInt64))), .second, .val (.ref r0), .val (.int (64 : Int32)), .val (.int (0 : Int32)), .val (.long (f 0)), .second]) rfl (pc' := 33) rfl ?_
  refine G.iinc B d1_33 (x := (0 : Int32)) rfl (z := (1 : Int32)) rfl (ls' := #[.val (.ref r0), .val (.long ((0 : Int64) + (z.toInt64))), .second, .val (.ref r0), .val (.int (64 : Int32)), .val (.int (1 : Int32)), .val (.long (f 0)), .second]) rfl (pc' := 36) rfl ?_
  refine G.goto B d1_36 (by decide) (pc' := 11) (by decide) ?_
  have hb := own_bl hz_ (pop_lt 64 _)
  exact loop 63 1 _ _ (f 0) (by omega) (by rw [hb]; rfl) (by decide)
theorem own_div (x : Int32) (h : 0 ≤ x.toInt) : (x / (64 : Int32)).toInt = ((x.toInt.toNat / 64 : Nat) : Int) := by
  have := (c_idiv x 64 64 rfl (by decide)).1 h
  omega
theorem d3_0 : decode prog_37_method_4_code 0 = .ok (.iload_n 1, 1) := by decide +kernel
theorem d3_1 : decode prog_37_method_4_code 1 = .ok (.ifCond .lt 22, 3) := by decide +kernel
theorem d3_4 : decode prog_37_method_4_code 4 = .ok (.iload_n 1, 1) := by decide +kernel
theorem d3_5 : decode prog_37_method_4_code 5 = .ok (.sipush 4096, 3) := by decide +kernel
theorem d3_8 : decode prog_37_method_4_code 8 = .ok (.if_icmp .ge 15, 3) := by decide +kernel
theorem d3_11 : decode prog_37_method_4_code 11 = .ok (.aload_n 0, 1) := by decide +kernel
theorem d3_12 : decode prog_37_method_4_code 12 = .ok (.iload_n 1, 1) := by decide +kernel
theorem d3_13 : decode prog_37_method_4_code 13 = .ok (.bipush 64, 2) := by decide +kernel
theorem d3_15 : decode prog_37_method_4_code 15 = .ok (.idiv, 1) := by decide +kernel
theorem d3_16 : decode prog_37_method_4_code 16 = .ok (.dup2, 1) := by decide +kernel
theorem d3_17 : decode prog_37_method_4_code 17 = .ok (.laload, 1) := by decide +kernel
theorem d3_18 : decode prog_37_method_4_code 18 = .ok (.lconst 1, 1) := by decide +kernel
theorem d3_19 : decode prog_37_method_4_code 19 = .ok (.iload_n 1, 1) := by decide +kernel
theorem d3_20 : decode prog_37_method_4_code 20 = .ok (.lshl, 1) := by decide +kernel
theorem d3_21 : decode prog_37_method_4_code 21 = .ok (.lor, 1) := by decide +kernel
theorem d3_22 : decode prog_37_method_4_code 22 = .ok (.lastore, 1) := by decide +kernel
theorem d3_23 : decode prog_37_method_4_code 23 = .ok (.return_, 1) := by decide +kernel
theorem pn_3 : plainFor (⟨"com/example/taut_keyring/tautkeyring/ReachWindow", "setBit", "([JI)V"⟩ : MethodName) = true := plainFor_of_name (by first | (simp [plainName, overriddenIn]; done) | decide +kernel)
theorem ef_3 (m : MethodId) (r0 : Addr) (p1 : Int32) : entryFrame m #[(.ref r0), (.int p1)] 2 = mkF m 0 #[.val (.ref r0), .val (.int p1)] [] := by first | (simp [entryFrame, mkF, argsToLocals, Value.category]; done) | rfl
def Qq3 (Z : State) (r0 : Addr) (p1 : Int32) (f : Nat → Int64) (h0 : Heap) : Heap → Prop := fun h' => ∃ g, ArJ Z h' r0 64 g ∧ ((0 ≤ p1.toInt ∧ p1.toInt < 4096 ∧ g = up f (p1.toInt.toNat / 64) (f (p1.toInt.toNat / 64) ||| ((1 : Int64) <<< (p1 &&& 0x3f).toInt64))) ∨ (¬ (0 ≤ p1.toInt ∧ p1.toInt < 4096) ∧ g = f))
abbrev Gg3 (p : Program) (l : Launch) (e : Env) (s : State) (m : MethodId) (below : List Frame) (meth : Method) (c : Code) (n0 : Nat) (h0 : Heap) (Z : State) (r0 : Addr) (p1 : Int32) (f : Nat → Int64) (cc ss : Nat) (hh : Heap) (gg : JFrame) : Prop := G p l e ({ frames := 0, cells := 0, slots := 0, locals := 0 } : Room) s m #[(.ref r0), (.int p1)] below meth c n0 h0 [r0] (RV (Qq3 Z r0 p1 f h0)) cc ss hh gg
set_option maxRecDepth 65536 in
set_option maxHeartbeats 40000000 in
theorem rm3 (l : Launch) (Z : State) (a0 : Array Value) (hw : ∀ d ∈ tables_1, d.before a0 Z = true) (r0 : Addr) (p1 : Int32) (f : Nat → Int64) (h0 : Heap) (n0 : Nat) (hn : n0 ≤ h0.size) (A : ArJ Z h0 r0 64 f) (hr : n0 ≤ r0) :
    Mt l Z (⟨"com/example/taut_keyring/tautkeyring/ReachWindow", "setBit", "([JI)V"⟩ : MethodName) prog_37_method_4_code 2 none [] ({ frames := 0, cells := 0, slots := 0, locals := 0 } : Room) n0 #[(.ref r0), (.int p1)] h0 [r0] (RV (Qq3 Z r0 p1 f h0)) := by
  refine Mt.intro pn_3 hn (allS hr all0) ?_
  have hz : h0.size ≤ h0.size := Nat.le_refl _
  intro p e s m below meth c B
  refine G.entry (ef_3 m r0 p1) ?_
  show Gg3 p l e s m below meth c n0 h0 Z r0 p1 f 0 0 h0 (mkF m 0 #[.val (.ref r0), .val (.int p1)] [])
  refine G.iloadN B d3_0 (v := p1) rfl (pc' := 1) rfl ?_
  refine G.if_lt B d3_1 (by decide) (pcT := 23) (by decide) (pc' := 4) rfl (fun (hc1 : p1.toInt < 0) => ?_) (fun (hc1 : 0 ≤ p1.toInt) => ?_)
  · exact G.retV B d3_23 (by decide) (by decide) ⟨_, A, Or.inr ⟨by omega, rfl⟩⟩
  · refine G.iloadN B d3_4 (v := p1) rfl (pc' := 5) rfl ?_
    refine G.sipush B d3_5 (z := (4096 : Int32)) rfl (pc' := 8) rfl ?_
    refine G.icmp_ge B d3_8 (by decide) (pcT := 23) (by decide) (pc' := 11) rfl (fun (hc8 : 4096 ≤ p1.toInt) => ?_) (fun (hc8 : p1.toInt < 4096) => ?_)
    · exact G.retV B d3_23 (by decide) (by decide) ⟨_, A, Or.inr ⟨by omega, rfl⟩⟩
    · refine G.aloadN B d3_11 (v := (.ref r0)) rfl rfl (pc' := 12) rfl ?_
      refine G.iloadN B d3_12 (v := p1) rfl (pc' := 13) rfl ?_
      refine G.bipush B d3_13 (z := (64 : Int32)) rfl (pc' := 15) rfl ?_
      refine G.idiv B d3_15 (by decide) (pc' := 16) rfl ?_
      refine G.dup2 B d3_16 rfl rfl (pc' := 17) rfl ?_
      refine G.ldJ B A (i := (p1.toInt.toNat / 64)) (own_div p1 hc1) (by omega) (x := (f (p1.toInt.toNat / 64))) rfl d3_17 (pc' := 18) rfl ?_
      refine G.lconst B d3_18 (z := (1 : Int64)) rfl (pc' := 19) rfl ?_
      refine G.iloadN B d3_19 (v := p1) rfl (pc' := 20) rfl ?_
      refine G.lshl B d3_20 (pc' := 21) rfl ?_
      refine G.lor B d3_21 (pc' := 22) rfl ?_
      refine G.stJ B A (i := (p1.toInt.toNat / 64)) (own_div p1 hc1) (by omega) (Or.inl (List.mem_of_getElem? (i := 0) rfl)) d3_22 (pc' := 23) rfl (fun h1 K1 A1 => ?_)
      replace A := A1
      replace hn := Nat.le_trans hn K1.1
      replace hz := Nat.le_trans hz K1.1
      exact G.retV B d3_23 (by decide) (by decide) ⟨_, A, Or.inl ⟨hc1, hc8, rfl⟩⟩
theorem own_k (x : Int32) : ∃ n : Nat, (((x &&& (4095 : Int32)).toUInt32 >>> ((6 : Int32) &&& 31).toUInt32).toInt32).toInt = (n : Int) ∧ n < 64 ∧ (0 ≤ x.toInt ∧ x.toInt < 4096 → n = x.toInt.toNat / 64) := by
  have h := c_mask x 4095 12 (by decide) (by decide)
  have h1 := c_iushr (x &&& (4095 : Int32)) 6 6 (by decide) (by decide)
  refine ⟨(((x &&& (4095 : Int32)).toUInt32 >>> ((6 : Int32) &&& 31).toUInt32).toInt32).toInt.toNat, ?_, ?_, ?_⟩
  · omega
  · omega
  · intro r; omega
theorem own_mm (x : Int32) : (x &&& (63 : Int32)) &&& 0x3f = x &&& 0x3f := by
  rw [Int32.and_assoc]; rfl
theorem own_law {F g : Nat → Int64} {n : Nat} {c m d v : Int64} {inr bit : Int32} (hn : n < 64) (hF : F n = c) (hm : m = (1 : Int64) <<< (bit &&& 0x3f).toInt64)
    (hinr : (bit.toInt < 0 ∧ inr = 0) ∨ (0 ≤ bit.toInt ∧ 4096 ≤ bit.toInt ∧ inr = 0) ∨ (0 ≤ bit.toInt ∧ bit.toInt < 4096 ∧ inr = 1))
    (hk : 0 ≤ bit.toInt ∧ bit.toInt < 4096 → n = bit.toInt.toNat / 64)
    (hg : (0 ≤ bit.toInt ∧ bit.toInt < 4096 ∧ g = up F (bit.toInt.toNat / 64) (F (bit.toInt.toNat / 64) ||| ((1 : Int64) <<< (bit &&& 0x3f).toInt64))) ∨ (¬ (0 ≤ bit.toInt ∧ bit.toInt < 4096) ∧ g = F))
    (hv : (inr = 0 ∧ v = c) ∨ (inr ≠ 0 ∧ v = c ||| m)) (hd : (inr = 0 ∧ d = 0) ∨ (inr ≠ 0 ∧ c &&& m ≠ 0 ∧ d = 0) ∨ (inr ≠ 0 ∧ c &&& m = 0 ∧ d = 1)) :
    (∀ i, i ≠ n → g i = F i) ∧ g n = v ∧ cnt g 64 = cnt F 64 + d := by
  rcases hg with ⟨a1, a2, rfl⟩ | ⟨a, rfl⟩
  · have e := hk ⟨a1, a2⟩
    subst e
    have hi : inr ≠ 0 := by
      rcases hinr with ⟨q, _⟩ | ⟨_, q, _⟩ | ⟨_, _, rfl⟩
      · omega
      · omega
      · decide
    rw [← hm, hF]
    have h1 : ∀ i, i ≠ bit.toInt.toNat / 64 → up F (bit.toInt.toNat / 64) (c ||| m) i = F i := fun i q => if_neg q
    have h2 : up F (bit.toInt.toNat / 64) (c ||| m) (bit.toInt.toNat / 64) = c ||| m := if_pos rfl
    have hv' : v = c ||| m := by
      rcases hv with ⟨q, _⟩ | ⟨_, q⟩
      · exact absurd q hi
      · exact q
    refine ⟨h1, by rw [h2, hv'], ?_⟩
    have hc := own_cnt F (up F (bit.toInt.toNat / 64) (c ||| m)) (bit.toInt.toNat / 64) 64 h1 hn
    rw [h2, hF] at hc
    rcases hd with ⟨q, _⟩ | ⟨_, q, rfl⟩ | ⟨_, q, rfl⟩
    · exact absurd q hi
    · rw [own_or c m bit hm q] at hc ⊢
      rw [Int64.add_zero]
      exact own_cancel hc
    · rw [hm] at q hc ⊢
      rw [own_pop c bit q, Int64.ofNat_add, show Int64.ofNat 1 = 1 from rfl, Int64.add_comm (Int64.ofNat _) 1, ← Int64.add_assoc] at hc
      exact own_cancel hc
  · have hi : inr = 0 := by
      rcases hinr with ⟨_, q⟩ | ⟨_, _, q⟩ | ⟨b1, b2, _⟩
      · exact q
      · exact q
      · exact absurd ⟨b1, b2⟩ a
    refine ⟨fun i _ => rfl, ?_, ?_⟩
    · rcases hv with ⟨_, q⟩ | ⟨q, _⟩
      · rw [hF, q]
      · exact absurd hi q
    · rcases hd with ⟨_, rfl⟩ | ⟨q, _⟩ | ⟨q, _⟩
      · rw [Int64.add_zero]
      · exact absurd hi q
      · exact absurd hi q
theorem pn_0 : plainFor x = true := plainFor_of_name (by first | (simp [plainName, overriddenIn]; done) | decide +kernel)
theorem ef_0 (m : MethodId) (p0 : Int32) (q1 : Int64) (q2 : Int64) (q3 : Int64) : entryFrame m #[(.int p0), (.long q1), (.long q2), (.long q3)] maxLocals = mkF m 0 #[.val (.int p0), .val (.long q1), .second, .val (.long q2), .second, .val (.long q3), .second, .unset, .unset, .unset, .unset, .unset, .unset, .unset, .unset, .unset, .unset, .unset, .unset, .unset, .unset, .unset, .unset, .unset, .unset, .unset, .unset, .unset] [] := by first | (simp [entryFrame, mkF, argsToLocals, Value.category, maxLocals]; done) | rfl
theorem pd_1 : parseMethodDescriptor "([J)J" = some ⟨[(.array .long)], some .long⟩ := by decide +kernel
theorem pd_2 : parseMethodDescriptor "([JI)V" = some ⟨[(.array .long), .int], none⟩ := by decide +kernel
def Qq0 (Z : State) (p0 : Int32) (q1 : Int64) (q2 : Int64) (q3 : Int64)  (h0 : Heap) : Int32 → Heap → Prop := fun z _ => z = 1
abbrev Gg0 (p : Program) (l : Launch) (e : Env) (s : State) (m : MethodId) (below : List Frame) (meth : Method) (c : Code) (n0 : Nat) (h0 : Heap) (Z : State) (p0 : Int32) (q1 : Int64) (q2 : Int64) (q3 : Int64)  (cc ss : Nat) (hh : Heap) (gg : JFrame) : Prop := G p l e room_1 s m #[(.int p0), (.long q1), (.long q2), (.long q3)] below meth c n0 h0 [] (RI (Qq0 Z p0 q1 q2 q3  h0)) cc ss hh gg
set_option maxRecDepth 65536 in
set_option maxHeartbeats 40000000 in
theorem rm0 (l : Launch) (Z : State) (a0 : Array Value) (hw : ∀ d ∈ tables_1, d.before a0 Z = true) (p0 : Int32) (q1 : Int64) (q2 : Int64) (q3 : Int64)  (h0 : Heap) (n0 : Nat) (hn : n0 ≤ h0.size)  :
    Mt l Z x code maxLocals ret tables_1 room_1 n0 #[(.int p0), (.long q1), (.long q2), (.long q3)] h0 [] (RI (Qq0 Z p0 q1 q2 q3  h0)) := by
  refine Mt.intro pn_0 hn (fun x hx => nomatch hx) ?_
  have hz : h0.size ≤ h0.size := Nat.le_refl _
  intro p e s m below meth c B
  refine G.entry (ef_0 m p0 q1 q2 q3) ?_
  show Gg0 p l e s m below meth c n0 h0 Z p0 q1 q2 q3  0 0 h0 (mkF m 0 #[.val (.int p0), .val (.long q1), .second, .val (.long q2), .second, .val (.long q3), .second, .unset, .unset, .unset, .unset, .unset, .unset, .unset, .unset, .unset, .unset, .unset, .unset, .unset, .unset, .unset, .unset, .unset, .unset, .unset, .unset, .unset] [])
  refine G.bipush B at_0 (z := (64 : Int32)) rfl (pc' := 2) rfl ?_
  refine G.newJ B (hw _ (List.mem_of_getElem? (i := 0) rfl)) (n := 64) (by decide) (cap := 64) (by decide) (by decide) at_2 (pc' := 4) rfl (by decide) (by decide) (fun h1 w hs_w hf_w K1 A_w => ?_)
  replace hn := Nat.le_trans hn K1.1
  replace hz := Nat.le_trans hz K1.1
  show Gg0 p l e s m below meth c n0 h0 Z p0 q1 q2 q3  1 64 h1 (mkF m 4 #[.val (.int p0), .val (.long q1), .second, .val (.long q2), .second, .val (.long q3), .second, .unset, .unset, .unset, .unset, .unset, .unset, .unset, .unset, .unset, .unset, .unset, .unset, .unset, .unset, .unset, .unset, .unset, .unset, .unset, .unset, .unset] [(.ref w)])
  refine G.astore B at_4 rfl (ls' := #[.val (.int p0), .val (.long q1), .second, .val (.long q2), .second, .val (.long q3), .second, .val (.ref w), .unset, .unset, .unset, .unset, .unset, .unset, .unset, .unset, .unset, .unset, .unset, .unset, .unset, .unset, .unset, .unset, .unset, .unset, .unset, .unset]) rfl (pc' := 6) rfl ?_
  refine G.aload B at_6 (v := (.ref w)) rfl rfl (pc' := 8) rfl ?_
  refine G.iconst B at_8 (z := (0 : Int32)) rfl (pc' := 9) rfl ?_
  refine G.lloadN B at_9 (v := q1) rfl (pc' := 10) rfl ?_
  refine G.stJ B A_w (i := 0) (by decide) (by decide) (Or.inr hf_w) at_10 (pc' := 11) rfl (fun h2 K2 A2 => ?_)
  replace A_w := A2
  replace hn := Nat.le_trans hn K2.1
  replace hz := Nat.le_trans hz K2.1
  refine G.aload B at_11 (v := (.ref w)) rfl rfl (pc' := 13) rfl ?_
  refine G.bipush B at_13 (z := (63 : Int32)) rfl (pc' := 15) rfl ?_
  refine G.lloadN B at_15 (v := q2) rfl (pc' := 16) rfl ?_
  refine G.stJ B A_w (i := 63) (by decide) (by decide) (Or.inr hf_w) at_16 (pc' := 17) rfl (fun h3 K3 A3 => ?_)
  replace A_w := A3
  replace hn := Nat.le_trans hn K3.1
  replace hz := Nat.le_trans hz K3.1
  refine G.iloadN B at_17 (v := p0) rfl (pc' := 18) rfl ?_
  refine G.sipush B at_18 (z := (4095 : Int32)) rfl (pc' := 21) rfl ?_
  refine G.iand B at_21 (pc' := 22) rfl ?_
  refine G.bipush B at_22 (z := (6 : Int32)) rfl (pc' := 24) rfl ?_
  refine G.iushr B at_24 (pc' := 25) rfl ?_
  refine G.istore B at_25 (ls' := #[.val (.int p0), .val (.long q1), .second, .val (.long q2), .second, .val (.long q3), .second, .val (.ref w), .val (.int (((p0 &&& (4095 : Int32)).toUInt32 >>> ((6 : Int32) &&& 31).toUInt32).toInt32)), .unset, .unset, .unset, .unset, .unset, .unset, .unset, .unset, .unset, .unset, .unset, .unset, .unset, .unset, .unset, .unset, .unset, .unset, .unset]) rfl (pc' := 27) rfl ?_
  obtain ⟨k, e_k⟩ : ∃ z, z = (((p0 &&& (4095 : Int32)).toUInt32 >>> ((6 : Int32) &&& 31).toUInt32).toInt32) := ⟨_, rfl⟩
  rw [← e_k]
  show Gg0 p l e s m below meth c n0 h0 Z p0 q1 q2 q3  1 64 h3 (mkF m 27 #[.val (.int p0), .val (.long q1), .second, .val (.long q2), .second, .val (.long q3), .second, .val (.ref w), .val (.int k), .unset, .unset, .unset, .unset, .unset, .unset, .unset, .unset, .unset, .unset, .unset, .unset, .unset, .unset, .unset, .unset, .unset, .unset, .unset] [])
  obtain ⟨nk, hk, hk64, hkr⟩ : ∃ n : Nat, k.toInt = (n : Int) ∧ n < 64 ∧ (0 ≤ p0.toInt ∧ p0.toInt < 4096 → n = p0.toInt.toNat / 64) := e_k ▸ own_k p0
  refine G.aload B at_27 (v := (.ref w)) rfl rfl (pc' := 29) rfl ?_
  refine G.iload B at_29 (v := k) rfl (pc' := 31) rfl ?_
  refine G.lload B at_31 (v := q3) rfl (pc' := 33) rfl ?_
  refine G.stJ B A_w (i := nk) hk hk64 (Or.inr hf_w) at_33 (pc' := 34) rfl (fun h4 K4 A4 => ?_)
  replace A_w := A4
  replace hn := Nat.le_trans hn K4.1
  replace hz := Nat.le_trans hz K4.1
  obtain ⟨F, eF⟩ : ∃ F, F = (up (up (up (fun _ => 0) 0 q1) 63 q2) nk q3) := ⟨_, rfl⟩
  rw [← eF] at A_w
  have hF : F nk = q3 := by rw [eF]; exact if_pos rfl
  refine G.aload B at_34 (v := (.ref w)) rfl rfl (pc' := 36) rfl ?_
  refine G.iconst B at_36 (z := (0 : Int32)) rfl (pc' := 37) rfl ?_
  refine G.ldJ B A_w (i := 0) (by decide) (by decide) (x := (F 0)) rfl at_37 (pc' := 38) rfl ?_
  refine G.lstore B at_38 (ls' := #[.val (.int p0), .val (.long q1), .second, .val (.long q2), .second, .val (.long q3), .second, .val (.ref w), .val (.int k), .val (.long (F 0)), .second, .unset, .unset, .unset, .unset, .unset, .unset, .unset, .unset, .unset, .unset, .unset, .unset, .unset, .unset, .unset, .unset, .unset]) rfl (pc' := 40) rfl ?_
  refine G.aload B at_40 (v := (.ref w)) rfl rfl (pc' := 42) rfl ?_
  refine G.bipush B at_42 (z := (63 : Int32)) rfl (pc' := 44) rfl ?_
  refine G.ldJ B A_w (i := 63) (by decide) (by decide) (x := (F 63)) rfl at_44 (pc' := 45) rfl ?_
  refine G.lstore B at_45 (ls' := #[.val (.int p0), .val (.long q1), .second, .val (.long q2), .second, .val (.long q3), .second, .val (.ref w), .val (.int k), .val (.long (F 0)), .second, .val (.long (F 63)), .second, .unset, .unset, .unset, .unset, .unset, .unset, .unset, .unset, .unset, .unset, .unset, .unset, .unset, .unset, .unset]) rfl (pc' := 47) rfl ?_
  refine G.aload B at_47 (v := (.ref w)) rfl rfl (pc' := 49) rfl ?_
  refine G.callS (y := (⟨"com/example/taut_keyring/tautkeyring/ReachWindow", "count", "([J)J"⟩ : MethodName)) B (hw _ (List.mem_of_getElem? (i := 1) rfl)) (hw _ (List.mem_of_getElem? (i := 2) rfl)) (rm := ({ frames := 1, cells := 0, slots := 0, locals := 15 } : Room)) (ws' := []) (rm1 l Z a0 hw w F _ n0 hn A_w) (fun x hx => nomatch hx) (hw _ (List.mem_of_getElem? (i := 4) rfl)) (hw _ (List.mem_of_getElem? (i := 3) rfl)) (by decide) rfl (argsL := [(.ref w)]) (rest := []) rfl (lenOf pd_1 rfl) (by decide) (W := 0) (Nat.le_of_eq rfl) (by decide) (by decide) (by decide) at_49 (pc' := 52) rfl ?_
  rintro _ _ K5 ⟨c1, rfl, rfl, hc1⟩
  show Gg0 p l e s m below meth c n0 h0 Z p0 q1 q2 q3  1 64 h4 (mkF m 52 #[.val (.int p0), .val (.long q1), .second, .val (.long q2), .second, .val (.long q3), .second, .val (.ref w), .val (.int k), .val (.long (F 0)), .second, .val (.long (F 63)), .second, .unset, .unset, .unset, .unset, .unset, .unset, .unset, .unset, .unset, .unset, .unset, .unset, .unset, .unset, .unset] [(.long c1)])
  refine G.lstore B at_52 (ls' := #[.val (.int p0), .val (.long q1), .second, .val (.long q2), .second, .val (.long q3), .second, .val (.ref w), .val (.int k), .val (.long (F 0)), .second, .val (.long (F 63)), .second, .val (.long c1), .second, .unset, .unset, .unset, .unset, .unset, .unset, .unset, .unset, .unset, .unset, .unset, .unset, .unset]) rfl (pc' := 54) rfl ?_
  refine G.aload B at_54 (v := (.ref w)) rfl rfl (pc' := 56) rfl ?_
  refine G.iloadN B at_56 (v := p0) rfl (pc' := 57) rfl ?_
  refine G.callS (y := (⟨"com/example/taut_keyring/tautkeyring/ReachWindow", "setBit", "([JI)V"⟩ : MethodName)) B (hw _ (List.mem_of_getElem? (i := 12) rfl)) (hw _ (List.mem_of_getElem? (i := 13) rfl)) (rm := ({ frames := 0, cells := 0, slots := 0, locals := 0 } : Room)) (ws' := [w]) (rm3 l Z a0 hw w p0 F _ n0 hn A_w (own_fr B (Or.inr hf_w))) (allS (Or.inr hf_w) all0) (hw _ (List.mem_of_getElem? (i := 14) rfl)) (hw _ (List.mem_of_getElem? (i := 3) rfl)) (by decide) rfl (argsL := [(.ref w), (.int p0)]) (rest := []) rfl (lenOf pd_2 rfl) (by decide) (W := 0) (Nat.le_of_eq rfl) (by decide) (by decide) (by decide) at_57 (pc' := 60) rfl ?_
  rintro _ h6 K6 ⟨rfl, g, A_w, hg⟩
  replace hn := Nat.le_trans hn K6.1
  replace hz := Nat.le_trans hz K6.1
  show Gg0 p l e s m below meth c n0 h0 Z p0 q1 q2 q3  1 64 h6 (mkF m 60 #[.val (.int p0), .val (.long q1), .second, .val (.long q2), .second, .val (.long q3), .second, .val (.ref w), .val (.int k), .val (.long (F 0)), .second, .val (.long (F 63)), .second, .val (.long c1), .second, .unset, .unset, .unset, .unset, .unset, .unset, .unset, .unset, .unset, .unset, .unset, .unset, .unset] [])
  refine G.aload B at_60 (v := (.ref w)) rfl rfl (pc' := 62) rfl ?_
  refine G.callS (y := (⟨"com/example/taut_keyring/tautkeyring/ReachWindow", "count", "([J)J"⟩ : MethodName)) B (hw _ (List.mem_of_getElem? (i := 1) rfl)) (hw _ (List.mem_of_getElem? (i := 2) rfl)) (rm := ({ frames := 1, cells := 0, slots := 0, locals := 15 } : Room)) (ws' := []) (rm1 l Z a0 hw w g _ n0 hn A_w) (fun x hx => nomatch hx) (hw _ (List.mem_of_getElem? (i := 4) rfl)) (hw _ (List.mem_of_getElem? (i := 3) rfl)) (by decide) rfl (argsL := [(.ref w)]) (rest := []) rfl (lenOf pd_1 rfl) (by decide) (W := 0) (Nat.le_of_eq rfl) (by decide) (by decide) (by decide) at_62 (pc' := 65) rfl ?_
  rintro _ _ K7 ⟨c2, rfl, rfl, hc2⟩
  show Gg0 p l e s m below meth c n0 h0 Z p0 q1 q2 q3  1 64 h6 (mkF m 65 #[.val (.int p0), .val (.long q1), .second, .val (.long q2), .second, .val (.long q3), .second, .val (.ref w), .val (.int k), .val (.long (F 0)), .second, .val (.long (F 63)), .second, .val (.long c1), .second, .unset, .unset, .unset, .unset, .unset, .unset, .unset, .unset, .unset, .unset, .unset, .unset, .unset] [(.long c2)])
  refine G.lstore B at_65 (ls' := #[.val (.int p0), .val (.long q1), .second, .val (.long q2), .second, .val (.long q3), .second, .val (.ref w), .val (.int k), .val (.long (F 0)), .second, .val (.long (F 63)), .second, .val (.long c1), .second, .val (.long c2), .second, .unset, .unset, .unset, .unset, .unset, .unset, .unset, .unset, .unset, .unset, .unset]) rfl (pc' := 67) rfl ?_
  refine G.iloadN B at_67 (v := p0) rfl (pc' := 68) rfl ?_
  suffices K83 : ∀ (inr : Int32), ((p0.toInt < 0 ∧ inr = (0 : Int32)) ∨ (0 ≤ p0.toInt ∧ 4096 ≤ p0.toInt ∧ inr = (0 : Int32)) ∨ (0 ≤ p0.toInt ∧ p0.toInt < 4096 ∧ inr = (1 : Int32))) → Gg0 p l e s m below meth c n0 h0 Z p0 q1 q2 q3  1 64 h6 (mkF m 83 #[.val (.int p0), .val (.long q1), .second, .val (.long q2), .second, .val (.long q3), .second, .val (.ref w), .val (.int k), .val (.long (F 0)), .second, .val (.long (F 63)), .second, .val (.long c1), .second, .val (.long c2), .second, .unset, .unset, .unset, .unset, .unset, .unset, .unset, .unset, .unset, .unset, .unset] [(.int inr)]) by
    refine G.if_lt B at_68 (by decide) (pcT := 82) (by decide) (pc' := 71) rfl (fun (hc68 : p0.toInt < 0) => ?_) (fun (hc68 : 0 ≤ p0.toInt) => ?_)
    · refine G.iconst B at_82 (z := (0 : Int32)) rfl (pc' := 83) rfl ?_
      exact K83 (0 : Int32) (Or.inl ⟨hc68, rfl⟩)
    · refine G.iloadN B at_71 (v := p0) rfl (pc' := 72) rfl ?_
      refine G.sipush B at_72 (z := (4096 : Int32)) rfl (pc' := 75) rfl ?_
      refine G.icmp_ge B at_75 (by decide) (pcT := 82) (by decide) (pc' := 78) rfl (fun (hc75 : 4096 ≤ p0.toInt) => ?_) (fun (hc75 : p0.toInt < 4096) => ?_)
      · refine G.iconst B at_82 (z := (0 : Int32)) rfl (pc' := 83) rfl ?_
        exact K83 (0 : Int32) (Or.inr (Or.inl ⟨hc68, hc75, rfl⟩))
      · refine G.iconst B at_78 (z := (1 : Int32)) rfl (pc' := 79) rfl ?_
        refine G.goto B at_79 (by decide) (pc' := 83) (by decide) ?_
        exact K83 (1 : Int32) (Or.inr (Or.inr ⟨hc68, hc75, rfl⟩))
  intro inr hj83
  refine G.istore B at_83 (ls' := #[.val (.int p0), .val (.long q1), .second, .val (.long q2), .second, .val (.long q3), .second, .val (.ref w), .val (.int k), .val (.long (F 0)), .second, .val (.long (F 63)), .second, .val (.long c1), .second, .val (.long c2), .second, .val (.int inr), .unset, .unset, .unset, .unset, .unset, .unset, .unset, .unset, .unset, .unset]) rfl (pc' := 85) rfl ?_
  refine G.lconst B at_85 (z := (1 : Int64)) rfl (pc' := 86) rfl ?_
  refine G.iloadN B at_86 (v := p0) rfl (pc' := 87) rfl ?_
  refine G.bipush B at_87 (z := (63 : Int32)) rfl (pc' := 89) rfl ?_
  refine G.iand B at_89 (pc' := 90) rfl ?_
  refine G.lshl B at_90 (pc' := 91) rfl ?_
  refine G.lstore B at_91 (ls' := #[.val (.int p0), .val (.long q1), .second, .val (.long q2), .second, .val (.long q3), .second, .val (.ref w), .val (.int k), .val (.long (F 0)), .second, .val (.long (F 63)), .second, .val (.long c1), .second, .val (.long c2), .second, .val (.int inr), .val (.long ((1 : Int64) <<< ((p0 &&& (63 : Int32)) &&& 0x3f).toInt64)), .second, .unset, .unset, .unset, .unset, .unset, .unset, .unset, .unset]) rfl (pc' := 93) rfl ?_
  obtain ⟨msk, e_msk⟩ : ∃ z, z = ((1 : Int64) <<< ((p0 &&& (63 : Int32)) &&& 0x3f).toInt64) := ⟨_, rfl⟩
  rw [← e_msk]
  show Gg0 p l e s m below meth c n0 h0 Z p0 q1 q2 q3  1 64 h6 (mkF m 93 #[.val (.int p0), .val (.long q1), .second, .val (.long q2), .second, .val (.long q3), .second, .val (.ref w), .val (.int k), .val (.long (F 0)), .second, .val (.long (F 63)), .second, .val (.long c1), .second, .val (.long c2), .second, .val (.int inr), .val (.long msk), .second, .unset, .unset, .unset, .unset, .unset, .unset, .unset, .unset] [])
  rw [own_mm] at e_msk
  refine G.iload B at_93 (v := inr) rfl (pc' := 95) rfl ?_
  suffices K108 : ∀ (v : Int64), ((inr = 0 ∧ v = q3) ∨ (inr ≠ 0 ∧ v = (q3 ||| msk))) → Gg0 p l e s m below meth c n0 h0 Z p0 q1 q2 q3  1 64 h6 (mkF m 108 #[.val (.int p0), .val (.long q1), .second, .val (.long q2), .second, .val (.long q3), .second, .val (.ref w), .val (.int k), .val (.long (F 0)), .second, .val (.long (F 63)), .second, .val (.long c1), .second, .val (.long c2), .second, .val (.int inr), .val (.long msk), .second, .unset, .unset, .unset, .unset, .unset, .unset, .unset, .unset] [(.long v)]) by
    refine G.if_eq B at_95 (by decide) (pcT := 106) (by decide) (pc' := 98) rfl (fun (hc95 : inr = 0) => ?_) (fun (hc95 : inr ≠ 0) => ?_)
    · refine G.lload B at_106 (v := q3) rfl (pc' := 108) rfl ?_
      exact K108 q3 (Or.inl ⟨hc95, rfl⟩)
    · refine G.lload B at_98 (v := q3) rfl (pc' := 100) rfl ?_
      refine G.lload B at_100 (v := msk) rfl (pc' := 102) rfl ?_
      refine G.lor B at_102 (pc' := 103) rfl ?_
      refine G.goto B at_103 (by decide) (pc' := 108) (by decide) ?_
      exact K108 (q3 ||| msk) (Or.inr ⟨hc95, rfl⟩)
  intro v hj108
  refine G.lstore B at_108 (ls' := #[.val (.int p0), .val (.long q1), .second, .val (.long q2), .second, .val (.long q3), .second, .val (.ref w), .val (.int k), .val (.long (F 0)), .second, .val (.long (F 63)), .second, .val (.long c1), .second, .val (.long c2), .second, .val (.int inr), .val (.long msk), .second, .val (.long v), .second, .unset, .unset, .unset, .unset, .unset, .unset]) rfl (pc' := 110) rfl ?_
  refine G.iload B at_110 (v := inr) rfl (pc' := 112) rfl ?_
  suffices K130 : ∀ (d : Int64), ((inr = 0 ∧ d = (0 : Int64)) ∨ (inr ≠ 0 ∧ (q3 &&& msk) ≠ (0 : Int64) ∧ d = (0 : Int64)) ∨ (inr ≠ 0 ∧ (q3 &&& msk) = (0 : Int64) ∧ d = (1 : Int64))) → Gg0 p l e s m below meth c n0 h0 Z p0 q1 q2 q3  1 64 h6 (mkF m 130 #[.val (.int p0), .val (.long q1), .second, .val (.long q2), .second, .val (.long q3), .second, .val (.ref w), .val (.int k), .val (.long (F 0)), .second, .val (.long (F 63)), .second, .val (.long c1), .second, .val (.long c2), .second, .val (.int inr), .val (.long msk), .second, .val (.long v), .second, .unset, .unset, .unset, .unset, .unset, .unset] [(.long d)]) by
    refine G.if_eq B at_112 (by decide) (pcT := 129) (by decide) (pc' := 115) rfl (fun (hc112 : inr = 0) => ?_) (fun (hc112 : inr ≠ 0) => ?_)
    · refine G.lconst B at_129 (z := (0 : Int64)) rfl (pc' := 130) rfl ?_
      exact K130 (0 : Int64) (Or.inl ⟨hc112, rfl⟩)
    · refine G.lload B at_115 (v := q3) rfl (pc' := 117) rfl ?_
      refine G.lload B at_117 (v := msk) rfl (pc' := 119) rfl ?_
      refine G.land B at_119 (pc' := 120) rfl ?_
      refine G.lconst B at_120 (z := (0 : Int64)) rfl (pc' := 121) rfl ?_
      refine G.lcmp_ne B at_121 rfl at_122 (by decide) (pcT := 129) (by decide) (pc' := 125) rfl (fun (hc121 : (q3 &&& msk) ≠ (0 : Int64)) => ?_) (fun (hc121 : (q3 &&& msk) = (0 : Int64)) => ?_)
      · refine G.lconst B at_129 (z := (0 : Int64)) rfl (pc' := 130) rfl ?_
        exact K130 (0 : Int64) (Or.inr (Or.inl ⟨hc112, hc121, rfl⟩))
      · refine G.lconst B at_125 (z := (1 : Int64)) rfl (pc' := 126) rfl ?_
        refine G.goto B at_126 (by decide) (pc' := 130) (by decide) ?_
        exact K130 (1 : Int64) (Or.inr (Or.inr ⟨hc112, hc121, rfl⟩))
  intro d hj130
  refine G.lstore B at_130 (ls' := #[.val (.int p0), .val (.long q1), .second, .val (.long q2), .second, .val (.long q3), .second, .val (.ref w), .val (.int k), .val (.long (F 0)), .second, .val (.long (F 63)), .second, .val (.long c1), .second, .val (.long c2), .second, .val (.int inr), .val (.long msk), .second, .val (.long v), .second, .val (.long d), .second, .unset, .unset, .unset, .unset]) rfl (pc' := 132) rfl ?_
  refine G.iload B at_132 (v := k) rfl (pc' := 134) rfl ?_
  suffices K144 : ∀ (x0 : Int64), ((k ≠ 0 ∧ x0 = (F 0)) ∨ (k = 0 ∧ x0 = v)) → Gg0 p l e s m below meth c n0 h0 Z p0 q1 q2 q3  1 64 h6 (mkF m 144 #[.val (.int p0), .val (.long q1), .second, .val (.long q2), .second, .val (.long q3), .second, .val (.ref w), .val (.int k), .val (.long (F 0)), .second, .val (.long (F 63)), .second, .val (.long c1), .second, .val (.long c2), .second, .val (.int inr), .val (.long msk), .second, .val (.long v), .second, .val (.long d), .second, .unset, .unset, .unset, .unset] [(.long x0)]) by
    refine G.if_ne B at_134 (by decide) (pcT := 142) (by decide) (pc' := 137) rfl (fun (hc134 : k ≠ 0) => ?_) (fun (hc134 : k = 0) => ?_)
    · refine G.lload B at_142 (v := (F 0)) rfl (pc' := 144) rfl ?_
      exact K144 (F 0) (Or.inl ⟨hc134, rfl⟩)
    · refine G.lload B at_137 (v := v) rfl (pc' := 139) rfl ?_
      refine G.goto B at_139 (by decide) (pc' := 144) (by decide) ?_
      exact K144 v (Or.inr ⟨hc134, rfl⟩)
  intro x0 hj144
  refine G.lstore B at_144 (ls' := #[.val (.int p0), .val (.long q1), .second, .val (.long q2), .second, .val (.long q3), .second, .val (.ref w), .val (.int k), .val (.long (F 0)), .second, .val (.long (F 63)), .second, .val (.long c1), .second, .val (.long c2), .second, .val (.int inr), .val (.long msk), .second, .val (.long v), .second, .val (.long d), .second, .val (.long x0), .second, .unset, .unset]) rfl (pc' := 146) rfl ?_
  refine G.iload B at_146 (v := k) rfl (pc' := 148) rfl ?_
  refine G.bipush B at_148 (z := (63 : Int32)) rfl (pc' := 150) rfl ?_
  suffices K160 : ∀ (x63 : Int64), ((k ≠ (63 : Int32) ∧ x63 = (F 63)) ∨ (k = (63 : Int32) ∧ x63 = v)) → Gg0 p l e s m below meth c n0 h0 Z p0 q1 q2 q3  1 64 h6 (mkF m 160 #[.val (.int p0), .val (.long q1), .second, .val (.long q2), .second, .val (.long q3), .second, .val (.ref w), .val (.int k), .val (.long (F 0)), .second, .val (.long (F 63)), .second, .val (.long c1), .second, .val (.long c2), .second, .val (.int inr), .val (.long msk), .second, .val (.long v), .second, .val (.long d), .second, .val (.long x0), .second, .unset, .unset] [(.long x63)]) by
    refine G.icmp_ne B at_150 (by decide) (pcT := 158) (by decide) (pc' := 153) rfl (fun (hc150 : k ≠ (63 : Int32)) => ?_) (fun (hc150 : k = (63 : Int32)) => ?_)
    · refine G.lload B at_158 (v := (F 63)) rfl (pc' := 160) rfl ?_
      exact K160 (F 63) (Or.inl ⟨hc150, rfl⟩)
    · refine G.lload B at_153 (v := v) rfl (pc' := 155) rfl ?_
      refine G.goto B at_155 (by decide) (pc' := 160) (by decide) ?_
      exact K160 v (Or.inr ⟨hc150, rfl⟩)
  intro x63 hj160
  refine G.lstore B at_160 (ls' := #[.val (.int p0), .val (.long q1), .second, .val (.long q2), .second, .val (.long q3), .second, .val (.ref w), .val (.int k), .val (.long (F 0)), .second, .val (.long (F 63)), .second, .val (.long c1), .second, .val (.long c2), .second, .val (.int inr), .val (.long msk), .second, .val (.long v), .second, .val (.long d), .second, .val (.long x0), .second, .val (.long x63), .second]) rfl (pc' := 162) rfl ?_
  refine G.aload B at_162 (v := (.ref w)) rfl rfl (pc' := 164) rfl ?_
  refine G.iload B at_164 (v := k) rfl (pc' := 166) rfl ?_
  obtain ⟨g1, g2, g3⟩ := own_law hk64 hF e_msk hj83 hkr hg hj108 hj130
  have hk0 : k = 0 ↔ nk = 0 := by rw [← Int32.toInt_inj, hk, show (0 : Int32).toInt = 0 from rfl]; omega
  have hk63 : k = 63 ↔ nk = 63 := by rw [← Int32.toInt_inj, hk, show (63 : Int32).toInt = 63 from rfl]; omega
  refine G.ldJ B A_w (i := nk) hk hk64 (x := (g nk)) rfl at_166 (pc' := 167) rfl ?_
  refine G.lload B at_167 (v := v) rfl (pc' := 169) rfl ?_
  have hc169 : (g nk) = v := g2
  refine G.lcmp_ne B at_169 rfl at_170 (by decide) (pcT := 209) (by decide) (pc' := 173) rfl (fun q => absurd hc169 q) (fun _ => ?_)
  refine G.aload B at_173 (v := (.ref w)) rfl rfl (pc' := 175) rfl ?_
  refine G.iconst B at_175 (z := (0 : Int32)) rfl (pc' := 176) rfl ?_
  refine G.ldJ B A_w (i := 0) (by decide) (by decide) (x := (g 0)) rfl at_176 (pc' := 177) rfl ?_
  refine G.lload B at_177 (v := x0) rfl (pc' := 179) rfl ?_
  have hc179 : (g 0) = x0 := by
    rcases hj144 with ⟨q, rfl⟩ | ⟨q, rfl⟩
    · exact g1 0 (fun r => q (hk0.mpr r.symm))
    · rw [← g2, hk0.mp q]
  refine G.lcmp_ne B at_179 rfl at_180 (by decide) (pcT := 209) (by decide) (pc' := 183) rfl (fun q => absurd hc179 q) (fun _ => ?_)
  refine G.aload B at_183 (v := (.ref w)) rfl rfl (pc' := 185) rfl ?_
  refine G.bipush B at_185 (z := (63 : Int32)) rfl (pc' := 187) rfl ?_
  refine G.ldJ B A_w (i := 63) (by decide) (by decide) (x := (g 63)) rfl at_187 (pc' := 188) rfl ?_
  refine G.lload B at_188 (v := x63) rfl (pc' := 190) rfl ?_
  have hc190 : (g 63) = x63 := by
    rcases hj160 with ⟨q, rfl⟩ | ⟨q, rfl⟩
    · exact g1 63 (fun r => q (hk63.mpr r.symm))
    · rw [← g2, hk63.mp q]
  refine G.lcmp_ne B at_190 rfl at_191 (by decide) (pcT := 209) (by decide) (pc' := 194) rfl (fun q => absurd hc190 q) (fun _ => ?_)
  refine G.lload B at_194 (v := c2) rfl (pc' := 196) rfl ?_
  refine G.lload B at_196 (v := c1) rfl (pc' := 198) rfl ?_
  refine G.lload B at_198 (v := d) rfl (pc' := 200) rfl ?_
  refine G.ladd B at_200 (pc' := 201) rfl ?_
  have hc201 : c2 = (c1 + d) := by rw [hc2, hc1]; exact g3
  refine G.lcmp_ne B at_201 rfl at_202 (by decide) (pcT := 209) (by decide) (pc' := 205) rfl (fun q => absurd hc201 q) (fun _ => ?_)
  refine G.iconst B at_205 (z := (1 : Int32)) rfl (pc' := 206) rfl ?_
  refine G.goto B at_206 (by decide) (pc' := 210) (by decide) ?_
  exact G.retZ B at_210 (by decide) (by decide) (Or.inr rfl) rfl
set_option maxRecDepth 65536 in
set_option maxHeartbeats 40000000 in
theorem comes_1 {Post : Tables → Env → Array Value → State → Outcome → State → Prop} (hpost : ∀ tb e args s v u, (limb_1_1.after args s (.returned v) u = true ∧ limb_1_2.after args s (.returned v) u = true ∧ True) → FrameEnd s (.returned v) u (Jvm.fieldLocs frame_1_writes args s ++ Jvm.arrayLocs frame_1_arrays args s ++ Jvm.staticLocs frame_1_statics s) 16 192 → Post tb e args s (.returned v) u) :
    ArmFor flags0 classFile x code maxLocals ret World_1 tables_1 room_1 Calls_1 rest_1 Pre_1 Post := by
  intro l hfl _ _ p e ha hc hk s m args below hf hA hF happ hP
  obtain ⟨hcalls, hrest, hpre⟩ := hP
  obtain ⟨-, -, -, hnamed, -, -, -, hat⟩ := (Spec.applies_iff hf).mp happ
  obtain ⟨hg, hn⟩ := and_e (Cond.before_iff.mp (show (Jvm.Cond.and given_1 narrow_1).before args s = true from hpre))
  obtain ⟨hq0, hg0⟩ := and_e hg
  obtain ⟨hq1, hg1⟩ := and_e hg0
  obtain ⟨hq2, hg2⟩ := and_e hg1
  obtain ⟨hq3, hg3⟩ := and_e hg2
  obtain ⟨w0, w1, w2, w3, rfl⟩ : ∃ w0 w1 w2 w3 : Value, args = #[w0, w1, w2, w3] := by
    have hs : args.size = 4 := by simpa [Cond.value, given_1] using hq0
    obtain ⟨L⟩ := args
    match L, hs with
    | [w0, w1, w2, w3], _ => exact ⟨w0, w1, w2, w3, rfl⟩
  have hw := fun d (hd : d ∈ tables_1) => atoms_spec (ws := Jvm.Cond.code x code maxLocals ret :: tables_1) hat d (List.mem_cons_of_mem _ hd)
  obtain ⟨i0, e0⟩ := is_v hq1
  obtain rfl : w0 = (.int i0) := Option.some.inj e0
  obtain ⟨i1, e1⟩ := isL_v hq2
  obtain rfl : w1 = (.long i1) := Option.some.inj e1
  obtain ⟨i2, e2⟩ := isL_v hq3
  obtain rfl : w2 = (.long i2) := Option.some.inj e2
  obtain ⟨i3, e3⟩ := isL_v hg3
  obtain rfl : w3 = (.long i3) := Option.some.inj e3
  obtain ⟨n, o, h1, h2, h3, _, L, rfl, ⟨N, -, _, rfl, rfl⟩, hq⟩ := rm0 l s _ hw i0 i1 i2 i3 s.heap s.heap.size (Nat.le_refl _) p e ha hc hk s m _ below hf ((Spec.applies_iff_loose hf).mp happ).1 ⟨rfl, State.Warmed39.refl s, rfl⟩ trivial
  refine ⟨n, _, h1, h2, h3, hpost _ _ _ _ _ _ ⟨Cond.after_iff.mpr rfl, Cond.after_iff.mpr (eq_i res_at (Term.int_eval (1)) rfl), trivial⟩ ⟨hq.1, hq.2.1, (hq.2.2.sift fun y hy => Or.inr (N y hy)).mono (by decide) (by decide)⟩⟩
theorem main_1_1 : Claimed_1_1 := comes_1 fun _ _ _ _ _ _ h hF => ⟨h.1, hF⟩
theorem main_1_2 : Claimed_1_2 := comes_1 fun _ _ _ _ _ _ h hF => ⟨h.2.1, hF⟩
end Jvm.Pilot.@@N@@
namespace Jvm.Pilot.@@N@@
open Jvm Jvm.ClassFile Sem Op Lib Jvm.Free Jvm.Stand Jvm.Pilot.@@N@@.Jvm.D
/-! MADE BY PROGRAM (witnessworld.py) out of the Statement's table words and the real class files: 16 classes; the members and pool entries that the words name. The judged class is class 1, her method 1. -/
namespace start1
open Jvm.ClassFile
def u (s : String) : CpInfo := .utf8 (stringToUtf16 s)
/-- a pool by its gaps: so many unusable entries, then the entry; so many at the end -/
def gap : Nat → List CpInfo → List CpInfo
  | 0, r => r
  | n + 1, r => .unusable :: gap n r
def poolList (es : List (Nat × CpInfo)) (last : Nat) : List CpInfo := es.foldr (fun e r => gap e.1 (e.2 :: r)) (gap last [])
def pool (es : List (Nat × CpInfo)) (last : Nat) : Array CpInfo := ⟨poolList es last⟩
def fileOf (pool : Array CpInfo) (this : Nat) (attrs : Array Attribute := #[]) (ms : Array MethodInfo := #[]) (fl : Nat := 33) (sup : Nat := 0) (ifs : Array Nat := #[]) (fds : Array FieldInfo := #[]) : ClassFile where
  minorVersion := 0
  majorVersion := 65
  constantPool := pool
  accessFlags := fl
  thisClass := this
  superClass := sup
  interfaces := ifs
  fields := fds
  methods := ms
  attributes := attrs
def plain (name : String) (sup : Option ClassId) : Class where
  name := name
  kind := .ordinary
  loader := none
  accessFlags := 33
  super := sup
  interfaces := #[]
  cf := none
  fields := #[]
  methods := #[]
  instanceTypes := #[]
  staticTypes := #[]
  resolved := #[]
  callSites := []
  init := .initialized
  statics := none
  mirror := none

def pool0 : Array CpInfo := pool [(5, u "<init>"), (0, u "()V"), (1, .class_ 10), (1, u "java/lang/Object")] 113

def k0m0 : Method := { name := "<init>", desc := "()V", sig := { parameters := [], returnType := none }, accessFlags := 1, code := none }
/-- java/lang/Object -/
def k0 : Class := { plain "java/lang/Object" none with
  accessFlags := 33
  interfaces := #[]
  cf := some (fileOf pool0 8 #[] #[{ accessFlags := 1, nameIndex := 5, descriptorIndex := 6, attributes := #[] }] 33 0 #[] #[])
  fields := #[]
  methods := #[k0m0]
  instanceTypes := #[]
  staticTypes := #[]
  resolved := Array.replicate 124 none
  statics := none }

def pool1 : Array CpInfo := pool [(2, .class_ 4), (1, u "java/lang/Object"), (0, u "<init>"), (0, u "()V"), (0, .methodref 8 9), (0, .class_ 10), (0, .nameAndType 11 12), (0, u "com/example/taut_keyring/tautkeyring/ReachWindow"), (0, u "count"), (0, u "([J)J"), (0, .methodref 8 14), (0, .nameAndType 15 16), (0, u "setBit"), (0, u "([JI)V"), (0, .class_ 18), (0, u "com/example/taut_keyring/tautkeyring/ReachWindowSetBitPinLaw"), (2, u "law"), (0, u "(IJJJ)Z")] 5

def k1m0 : Method := { name := "<init>", desc := "()V", sig := { parameters := [], returnType := none }, accessFlags := 1, code := none }
def k1c1 : Code := { maxStack := 6, maxLocals := 28, code := code, exceptionTable := #[], attributes := #[] }
def k1m1 : Method := { name := "law", desc := "(IJJJ)Z", sig := { parameters := [.int, .long, .long, .long], returnType := some .boolean }, accessFlags := 9, code := some k1c1 }
/-- com/example/taut_keyring/tautkeyring/ReachWindowSetBitPinLaw -/
def k1 : Class := { plain "com/example/taut_keyring/tautkeyring/ReachWindowSetBitPinLaw" (some 0) with
  accessFlags := 49
  interfaces := #[]
  cf := some (fileOf pool1 17 #[] #[{ accessFlags := 1, nameIndex := 5, descriptorIndex := 6, attributes := #[] }, { accessFlags := 9, nameIndex := 21, descriptorIndex := 22, attributes := #[] }] 49 2 #[] #[])
  fields := #[]
  methods := #[k1m0, k1m1]
  instanceTypes := #[]
  staticTypes := #[]
  resolved := Array.replicate 28 none
  statics := none }

def pool2 : Array CpInfo := pool [(1, .class_ 2), (0, u "com/example/taut_keyring/tautkeyring/ReachWindow"), (0, .class_ 4), (0, u "java/lang/Long"), (1, .class_ 8), (1, u "java/lang/Object"), (4, u "graph"), (0, u "Lcom/example/taut_keyring/tautkeyring/ClassGraph;"), (2, u "target"), (0, u "[I"), (8, u "component"), (14, u "members"), (2, u "firstMember"), (2, u "rows"), (0, u "[J"), (2, u "reachesWindow"), (0, u "[Z"), (19, .methodref 3 74), (0, .nameAndType 75 76), (0, u "bitCount"), (0, u "(J)I"), (0, u "WORDS"), (0, u "I"), (2, u "WIDTH"), (9, u "setBit"), (0, u "([JI)V"), (1, u "count"), (0, u "([J)J")] 3

def k2c0 : Code := { maxStack := 7, maxLocals := 2, code := prog_37_method_4_code, exceptionTable := #[], attributes := #[] }
def k2m0 : Method := { name := "setBit", desc := "([JI)V", sig := { parameters := [(.array .long), .int], returnType := none }, accessFlags := 8, code := some k2c0 }
def k2c1 : Code := { maxStack := 4, maxLocals := 8, code := prog_37_method_6_code, exceptionTable := #[], attributes := #[] }
def k2m1 : Method := { name := "count", desc := "([J)J", sig := { parameters := [(.array .long)], returnType := some .long }, accessFlags := 8, code := some k2c1 }
/-- com/example/taut_keyring/tautkeyring/ReachWindow -/
def k2 : Class := { plain "com/example/taut_keyring/tautkeyring/ReachWindow" (some 0) with
  accessFlags := 32
  interfaces := #[]
  cf := some (fileOf pool2 1 #[] #[{ accessFlags := 8, nameIndex := 91, descriptorIndex := 92, attributes := #[] }, { accessFlags := 8, nameIndex := 94, descriptorIndex := 95, attributes := #[] }] 32 6 #[] #[{ accessFlags := 24, nameIndex := 77, descriptorIndex := 78, attributes := #[] }, { accessFlags := 24, nameIndex := 81, descriptorIndex := 78, attributes := #[] }, { accessFlags := 18, nameIndex := 13, descriptorIndex := 14, attributes := #[] }, { accessFlags := 18, nameIndex := 17, descriptorIndex := 18, attributes := #[] }, { accessFlags := 18, nameIndex := 27, descriptorIndex := 18, attributes := #[] }, { accessFlags := 18, nameIndex := 42, descriptorIndex := 18, attributes := #[] }, { accessFlags := 18, nameIndex := 45, descriptorIndex := 18, attributes := #[] }, { accessFlags := 18, nameIndex := 48, descriptorIndex := 49, attributes := #[] }, { accessFlags := 18, nameIndex := 52, descriptorIndex := 53, attributes := #[] }])
  fields := #[{ name := "WORDS", type := .int, accessFlags := 24, slot := 0, constantValue := 0 }, { name := "WIDTH", type := .int, accessFlags := 24, slot := 1, constantValue := 0 }, { name := "graph", type := (.object "com/example/taut_keyring/tautkeyring/ClassGraph"), accessFlags := 18, slot := 0, constantValue := 0 }, { name := "target", type := (.array .int), accessFlags := 18, slot := 1, constantValue := 0 }, { name := "component", type := (.array .int), accessFlags := 18, slot := 2, constantValue := 0 }, { name := "members", type := (.array .int), accessFlags := 18, slot := 3, constantValue := 0 }, { name := "firstMember", type := (.array .int), accessFlags := 18, slot := 4, constantValue := 0 }, { name := "rows", type := (.array .long), accessFlags := 18, slot := 5, constantValue := 0 }, { name := "reachesWindow", type := (.array .boolean), accessFlags := 18, slot := 6, constantValue := 0 }]
  methods := #[k2m0, k2m1]
  instanceTypes := #[(.object "com/example/taut_keyring/tautkeyring/ClassGraph"), (.array .int), (.array .int), (.array .int), (.array .int), (.array .long), (.array .boolean)]
  staticTypes := #[.int, .int]
  resolved := Array.replicate 99 none
  statics := none }

def pool3 : Array CpInfo := pool [(1, .class_ 2), (0, u "java/io/Serializable"), (0, .class_ 4), (0, u "java/lang/Object")] 2

/-- java/io/Serializable -/
def k3 : Class := { plain "java/io/Serializable" (some 0) with
  accessFlags := 1537
  interfaces := #[]
  cf := some (fileOf pool3 1 #[] #[] 1537 3 #[] #[])
  fields := #[]
  methods := #[]
  instanceTypes := #[]
  staticTypes := #[]
  resolved := Array.replicate 7 none
  statics := none }

def pool4 : Array CpInfo := pool [(2, .class_ 4), (1, u "java/lang/Object"), (0, u "<init>"), (0, u "()V"), (1, .class_ 10), (1, u "java/lang/Number"), (2, .class_ 14), (0, u "java/io/Serializable"), (0, u "serialVersionUID"), (0, u "J")] 20

def k4m0 : Method := { name := "<init>", desc := "()V", sig := { parameters := [], returnType := none }, accessFlags := 1, code := none }
/-- java/lang/Number -/
def k4 : Class := { plain "java/lang/Number" (some 0) with
  accessFlags := 1057
  interfaces := #[3]
  cf := some (fileOf pool4 8 #[] #[{ accessFlags := 1, nameIndex := 5, descriptorIndex := 6, attributes := #[] }] 1057 2 #[13] #[{ accessFlags := 26, nameIndex := 15, descriptorIndex := 16, attributes := #[] }])
  fields := #[{ name := "serialVersionUID", type := .long, accessFlags := 26, slot := 0, constantValue := 0 }]
  methods := #[k4m0]
  instanceTypes := #[]
  staticTypes := #[.long]
  resolved := Array.replicate 37 none
  statics := none }

def pool5 : Array CpInfo := pool [(1, .class_ 2), (0, u "java/lang/Comparable"), (0, .class_ 4), (0, u "java/lang/Object")] 7

/-- java/lang/Comparable -/
def k5 : Class := { plain "java/lang/Comparable" (some 0) with
  accessFlags := 1537
  interfaces := #[]
  cf := some (fileOf pool5 1 #[] #[] 1537 3 #[] #[])
  fields := #[]
  methods := #[]
  instanceTypes := #[]
  staticTypes := #[]
  resolved := Array.replicate 12 none
  statics := none }

def pool6 : Array CpInfo := pool [(1, .class_ 2), (0, u "java/lang/constant/Constable"), (0, .class_ 4), (0, u "java/lang/Object")] 6

/-- java/lang/constant/Constable -/
def k6 : Class := { plain "java/lang/constant/Constable" (some 0) with
  accessFlags := 1537
  interfaces := #[]
  cf := some (fileOf pool6 1 #[] #[] 1537 3 #[] #[])
  fields := #[]
  methods := #[]
  instanceTypes := #[]
  staticTypes := #[]
  resolved := Array.replicate 11 none
  statics := none }

def pool7 : Array CpInfo := pool [(1, .class_ 2), (0, u "java/lang/constant/ConstantDesc"), (0, .class_ 4), (0, u "java/lang/Object")] 32

/-- java/lang/constant/ConstantDesc -/
def k7 : Class := { plain "java/lang/constant/ConstantDesc" (some 0) with
  accessFlags := 1537
  interfaces := #[]
  cf := some (fileOf pool7 1 #[] #[] 1537 3 #[] #[])
  fields := #[]
  methods := #[]
  instanceTypes := #[]
  staticTypes := #[]
  resolved := Array.replicate 37 none
  statics := none }

def pool8 : Array CpInfo := pool [(1, .class_ 2), (0, u "java/lang/Long"), (98, u "(J)I"), (133, .class_ 237), (1, u "java/lang/Long$LongCache"), (33, .class_ 272), (0, u "java/lang/Number"), (2, u "value"), (0, u "J"), (37, .long 6148914691236517205), (1, .long 3689348814741910323), (1, .long 1085102592571150095), (42, u "TYPE"), (0, u "Ljava/lang/Class;"), (0, .class_ 364), (0, u "java/lang/Comparable"), (0, .class_ 366), (0, u "java/lang/constant/Constable"), (0, .class_ 368), (0, u "java/lang/constant/ConstantDesc"), (0, u "MIN_VALUE"), (1, u "MAX_VALUE"), (4, u "SIZE"), (0, u "I"), (1, u "BYTES"), (1, u "serialVersionUID"), (94, u "bitCount")] 47

def k8c0 : Code := { maxStack := 6, maxLocals := 2, code := jdk_35_method_50_code, exceptionTable := #[], attributes := #[] }
def k8m0 : Method := { name := "bitCount", desc := "(J)I", sig := { parameters := [.long], returnType := some .int }, accessFlags := 9, code := some k8c0 }
/-- java/lang/Long -/
def k8 : Class := { plain "java/lang/Long" (some 4) with
  accessFlags := 49
  interfaces := #[5, 6, 7]
  cf := some (fileOf pool8 1 #[.nestMembers #[235]] #[{ accessFlags := 9, nameIndex := 476, descriptorIndex := 101, attributes := #[] }] 49 271 #[363, 365, 367] #[{ accessFlags := 25, nameIndex := 369, descriptorIndex := 276, attributes := #[] }, { accessFlags := 25, nameIndex := 371, descriptorIndex := 276, attributes := #[] }, { accessFlags := 25, nameIndex := 361, descriptorIndex := 362, attributes := #[] }, { accessFlags := 18, nameIndex := 275, descriptorIndex := 276, attributes := #[] }, { accessFlags := 25, nameIndex := 376, descriptorIndex := 377, attributes := #[] }, { accessFlags := 25, nameIndex := 379, descriptorIndex := 377, attributes := #[] }, { accessFlags := 26, nameIndex := 381, descriptorIndex := 276, attributes := #[] }])
  fields := #[{ name := "MIN_VALUE", type := .long, accessFlags := 25, slot := 0, constantValue := 0 }, { name := "MAX_VALUE", type := .long, accessFlags := 25, slot := 1, constantValue := 0 }, { name := "TYPE", type := (.object "java/lang/Class"), accessFlags := 25, slot := 2, constantValue := 0 }, { name := "value", type := .long, accessFlags := 18, slot := 0, constantValue := 0 }, { name := "SIZE", type := .int, accessFlags := 25, slot := 3, constantValue := 0 }, { name := "BYTES", type := .int, accessFlags := 25, slot := 4, constantValue := 0 }, { name := "serialVersionUID", type := .long, accessFlags := 26, slot := 5, constantValue := 0 }]
  methods := #[k8m0]
  instanceTypes := #[.long]
  staticTypes := #[.long, .long, (.object "java/lang/Class"), .int, .int, .long]
  resolved := Array.replicate 524 none
  statics := none }

def pool9 : Array CpInfo := pool [(1, u "java/lang/Cloneable"), (0, .class_ 1), (0, u "java/lang/Object"), (0, .class_ 3)] 3

/-- java/lang/Cloneable -/
def k9 : Class := { plain "java/lang/Cloneable" (some 0) with
  accessFlags := 1537
  interfaces := #[]
  cf := some (fileOf pool9 2 #[] #[] 1537 4 #[] #[])
  fields := #[]
  methods := #[]
  instanceTypes := #[]
  staticTypes := #[]
  resolved := Array.replicate 8 none
  statics := none }

/-- the primitive byte -/
def k10 : Class := { plain "byte" none with kind := .primitive 'B', accessFlags := 0x411 }
/-- [B -/
def k11 : Class := { plain "[B" (some 0) with kind := .array 10 .byte, interfaces := #[9, 3], accessFlags := 1041 }

/-- the primitive int -/
def k12 : Class := { plain "int" none with kind := .primitive 'I', accessFlags := 0x411 }
/-- [I -/
def k13 : Class := { plain "[I" (some 0) with kind := .array 12 .int, interfaces := #[9, 3], accessFlags := 1041 }

/-- the primitive long -/
def k14 : Class := { plain "long" none with kind := .primitive 'J', accessFlags := 0x411 }
/-- [J -/
def k15 : Class := { plain "[J" (some 0) with kind := .array 14 .long, interfaces := #[9, 3], accessFlags := 1041 }

def heap : Heap := #[]
def classes : Array Class := #[k0, k1, k2, k3, k4, k5, k6, k7, k8, k9, k10, k11, k12, k13, k14, k15]
def interned : List (Array UInt16 × Addr) := []
def slotsUsed : Nat := 0
def theMethod : MethodId := ⟨1, 1⟩
def args0 : Array Value := #[.int 5, .long 7, .long 3, .long 1]
def aboutOver (below : List Frame) : State where
  vm := { classes := classes, interned := interned.toArray }
  heap := heap
  slotsUsed := slotsUsed
  threads := #[{ frames := .invoking theMethod args0 :: below }]
def below0 : List Frame := [.native { method := ⟨0, 0⟩, args := #[] }]
def about1 : State := aboutOver below0
def p0 : Program := .bare "" "" ""
def e0 : Env := launch0.env 0 0 0
theorem w_frames : about1.frames = Frame.invoking theMethod args0 :: below0 := rfl
set_option maxRecDepth 65536 in
theorem w_args : argsFit about1.vm theMethod args0 = true := by decide +kernel
set_option maxRecDepth 65536 in
theorem w_heap : heapFits about1 = true := by decide +kernel
set_option maxRecDepth 65536 in
theorem w_runnable : about1.curStatus? = some .runnable := by decide +kernel
set_option maxRecDepth 65536 in
theorem w_alone : about1.alone = true := by decide +kernel
set_option maxRecDepth 65536 in
theorem w_named : about1.methodNamed? x = some theMethod := by decide +kernel
set_option maxRecDepth 65536 in
theorem w_hears : about1.hears theMethod below0 = true := by decide +kernel
set_option maxRecDepth 65536 in
theorem w_ripe : about1.ripe theMethod args0 below0 = true := by decide +kernel
theorem w_running : about1.status = .running := rfl
set_option maxRecDepth 65536 in
theorem w_room : about1.hasRoom e0.platform room_1 = true :=
  launch0.hasRoom_least _ room_1 (by decide +kernel) (by decide +kernel) (by decide +kernel) (by decide +kernel) (by decide +kernel) (by decide +kernel)
theorem allAtoms_all (ts : List Jvm.Cond) (a : Array Jvm.Value) (st : Jvm.State) : (allAtoms ts).before a st = ts.all (fun c => c.before a st) := by
  induction ts with
  | nil => rfl
  | cons c t ih =>
    show (Jvm.Cond.and c (allAtoms t)).before a st = _
    rw [Jvm.Cond.before_and, ih, List.all_cons]
def words1 : List Jvm.Cond := Jvm.Cond.code x code maxLocals ret :: tables_1
/-- a 'code' word, met by the world's own term for the bytes: nothing is compared byte by byte -/
theorem code_word {y : MethodName} {bytes : ByteArray} {mx : Nat} {rt : Option FieldType} {a : Array Value} {s : State} {m : MethodId} {meth : Method} {c : Code} (h1 : s.methodNamed? y = some m) (h2 : s.vm.method? m = some meth) (h3 : meth.code = some c) (h4 : c.code = bytes)
    (h5 : (c.maxLocals == mx && c.exceptionTable.isEmpty && decide (c.maxStack ≤ mostOperands) && decide (meth.sig.returnType = rt) && !meth.locks && decide (parseMethodDescriptor y.desc = some meth.sig)) = true) : (Jvm.Cond.code y bytes mx rt).before a s = true := by
  simp only [Bool.and_eq_true, beq_iff_eq, Bool.not_eq_true', decide_eq_true_eq] at h5
  obtain ⟨⟨⟨⟨⟨g1, g2⟩, g3⟩, g4⟩, g5⟩, g6⟩ := h5
  simp [Cond.before, Cond.holds, Cond.value, h1, h2, h3, h4, g1, g2, g3, g4, g5, g6]
def isCode : Jvm.Cond → Bool
  | .code _ _ _ _ => true
  | _ => false
theorem all_split {L : List Jvm.Cond} {P : Jvm.Cond → Bool} (h1 : L.all (fun c => isCode c || P c) = true) (h2 : ∀ c ∈ L.filter isCode, P c = true) : L.all P = true := by
  refine List.all_eq_true.mpr fun c hc => ?_
  have h := List.all_eq_true.mp h1 c hc
  rcases Bool.eq_false_or_eq_true (isCode c) with hi | hi
  · exact h2 c (List.mem_filter.mpr ⟨hc, hi⟩)
  · simpa [hi] using h
set_option maxRecDepth 65536 in
theorem w_c0 : (Jvm.Cond.code x code maxLocals ret).before args0 about1 = true := code_word (m := ⟨1, 1⟩) (meth := k1m1) (c := k1c1) (by decide +kernel) rfl rfl rfl (by decide +kernel)
set_option maxRecDepth 65536 in
theorem w_c1 : (Jvm.Cond.code ({ cls := "com/example/taut_keyring/tautkeyring/ReachWindow", name := "count", desc := "([J)J" } : Jvm.MethodName) prog_37_method_6_code (8 : Nat) (Option.some Jvm.ClassFile.FieldType.long)).before args0 about1 = true := code_word (m := ⟨2, 1⟩) (meth := k2m1) (c := k2c1) (by decide +kernel) rfl rfl rfl (by decide +kernel)
set_option maxRecDepth 65536 in
theorem w_c2 : (Jvm.Cond.code ({ cls := "java/lang/Long", name := "bitCount", desc := "(J)I" } : Jvm.MethodName) jdk_35_method_50_code (2 : Nat) (Option.some Jvm.ClassFile.FieldType.int)).before args0 about1 = true := code_word (m := ⟨8, 0⟩) (meth := k8m0) (c := k8c0) (by decide +kernel) rfl rfl rfl (by decide +kernel)
set_option maxRecDepth 65536 in
theorem w_c3 : (Jvm.Cond.code ({ cls := "com/example/taut_keyring/tautkeyring/ReachWindow", name := "setBit", desc := "([JI)V" } : Jvm.MethodName) prog_37_method_4_code (2 : Nat) (Option.none : Option Jvm.ClassFile.FieldType)).before args0 about1 = true := code_word (m := ⟨2, 0⟩) (meth := k2m0) (c := k2c0) (by decide +kernel) rfl rfl rfl (by decide +kernel)
def codes1 : List Jvm.Cond := [Jvm.Cond.code x code maxLocals ret, Jvm.Cond.code ({ cls := "com/example/taut_keyring/tautkeyring/ReachWindow", name := "count", desc := "([J)J" } : Jvm.MethodName) prog_37_method_6_code (8 : Nat) (Option.some Jvm.ClassFile.FieldType.long), Jvm.Cond.code ({ cls := "java/lang/Long", name := "bitCount", desc := "(J)I" } : Jvm.MethodName) jdk_35_method_50_code (2 : Nat) (Option.some Jvm.ClassFile.FieldType.int), Jvm.Cond.code ({ cls := "com/example/taut_keyring/tautkeyring/ReachWindow", name := "setBit", desc := "([JI)V" } : Jvm.MethodName) prog_37_method_4_code (2 : Nat) (Option.none : Option Jvm.ClassFile.FieldType)]
set_option maxRecDepth 65536 in
theorem codes_eq : words1.filter isCode = codes1 := rfl
theorem w_codes : ∀ c ∈ words1.filter isCode, c.before args0 about1 = true := by
  rw [codes_eq]
  intro c hc
  simp only [codes1, List.mem_cons, List.not_mem_nil, or_false] at hc
  rcases hc with rfl | rfl | rfl | rfl
  · exact w_c0
  · exact w_c1
  · exact w_c2
  · exact w_c3
set_option maxRecDepth 65536 in
theorem w_t1 : words1.all (fun c => isCode c || c.before args0 about1) = true := by decide +kernel
theorem w_tables : (allAtoms (Jvm.Cond.code x code maxLocals ret :: tables_1)).before args0 about1 = true := by
  rw [allAtoms_all]
  show words1.all (fun c => c.before args0 about1) = true
  refine all_split ?_ w_codes
  rw [w_t1]
set_option maxRecDepth 65536 in
theorem w_case : (Jvm.Cond.and given_1 narrow_1).before args0 about1 = true := by decide +kernel
theorem w_applies : (headSpec (Jvm.Cond.code x code maxLocals ret :: tables_1) room_1).applies x e0.platform about1 = true :=
  (Spec.applies_iff w_frames).mpr ⟨w_running, w_runnable, w_alone, w_named, w_hears, w_ripe, w_room, w_tables⟩
theorem atStart : AtStart classFile x code maxLocals ret World_1 tables_1 room_1 Calls_1 rest_1 Pre_1 launch0 p0 e0 about1 theMethod args0 below0 :=
  ⟨lists_1, trivial, launch0.admits_env _ _ _, launch0.least_env, fairChoices_fair.cas, fairChoices_fair.clock, w_frames, w_args, w_heap, w_applies, trivial, trivial, w_case⟩
end start1
theorem witness_1 : WitnessClaimed_1 := ⟨start1.p0, start1.e0, start1.about1, start1.theMethod, start1.args0, start1.below0, start1.atStart⟩
end Jvm.Pilot.@@N@@
