import JvmDerived
import JvmDerived.Pilot.@@N@@Statement
import JvmDerived.Pilot.@@N@@Code
set_option linter.unusedVariables false
set_option linter.unusedSimpArgs false
namespace Jvm.RoadKit
open Sem ClassFile Op Lib Jvm.Stand Jvm.Free Jvm.LawKit
section New
variable {p : Program} {l : Launch} {e : Env} {R : Room} {s : State} {m : MethodId} {args : Array Value} {below : List Frame} {meth : Method} {c : Code} {T : State} {locs : List Loc} {cells slots : Nat}
theorem retI (X : Stand p l e R s m args below meth c T locs cells slots) (hx : p.tables.exec = Jvm.exec) {pc : Nat} {Ls : Array Slot} {z : Int32} {rest : List Value} (hret : meth.sig.returnType = some .int) (hd : decode c.code pc = .ok (.ireturn, 1)) {fs : List Frame}
    (hl : ∀ (f : JFrame) (acts : List Action), f.method = m → f.locked = none → f.entered = [] → (doReturn e (T.setTop f) acts (some (.int z))).1 = T.setFrames fs) : Steps p.tables e below (T.setTop (mkF m pc Ls (.int z :: rest))) (T.setFrames fs) := by
  have hm' : T.vm.method? m = some meth := X.method'
  have hn : narrow .int (.int z) = .int z := rfl
  show Steps p.tables e below (T.setTop { method := m, pc := pc, locals := Ls, stack := _ :: rest, locked := none }) _
  jvm_step X.here [X.here.top, hx, hd, hm', hret, hn]
  first | (intro acts; rw [hl _ acts rfl rfl rfl]) | rw [hl _ _ rfl rfl rfl]
  exact Steps.refl _
end New
end Jvm.RoadKit
namespace Jvm.Pilot.@@N@@
open Jvm Jvm.ClassFile Sem Op Lib Jvm.Free Jvm.Stand Jvm.LawKit Jvm.RoadKit Bundle Jvm.Pilot.@@N@@.Jvm.D
section OwnKit
variable {p : Program} {l : Launch} {e : Env} {R : Room} {s : State} {m : MethodId} {args : Array Value} {below : List Frame} {meth : Method} {c : Code} {Z : State} {own nm : String} {bytes : ByteArray} {maxL : Nat} {rt : Option FieldType} {n0 : Nat} {h0 : Heap} {ws : List Addr} {Q : Option Value → Heap → Prop} {cells slots : Nat} {h : Heap} {pc pc' : Nat} {ls ls' : Array Slot} {st : List Value} {a0 : Array Value}
/-- what is fixed in a body -/
def Cx (p : Program) (s : State) (m : MethodId) (meth : Method) (c : Code) (Z : State) (own nm : String) (bytes : ByteArray) (maxL : Nat) (rt : Option FieldType) (n0 : Nat) (h0 : Heap) (ws : List Addr) : Prop :=
  (p.tables.exec = Jvm.exec ∧ c.code = bytes ∧ c.maxLocals = maxL ∧ s.vm.findClass own = some m.cls ∧ Z.Warmed39 s.vm) ∧ (meth.sig.returnType = rt ∧ meth.locks = false ∧ meth.name = nm ∧ n0 ≤ h0.size ∧ ∀ x ∈ ws, n0 ≤ x)
/-- from every state that stands here with the heap h at the frame g, the run returns and Q holds at the end -/
def G (p : Program) (l : Launch) (e : Env) (R : Room) (s : State) (m : MethodId) (args : Array Value) (below : List Frame) (meth : Method) (c : Code) (n0 : Nat) (h0 : Heap) (ws : List Addr) (Q : Option Value → Heap → Prop) (cells slots : Nat) (h : Heap) (g : JFrame) : Prop :=
  ∀ (T : State) (locs : List Loc) (k n : Nat), Stand p l e R s m args below meth c T locs k n → k ≤ cells → n ≤ slots → T.heap = h → Fr n0 locs → Keep h0 h ws →
    ∃ (U : State) (v : Option Value) (L : List Loc), Steps p.tables e below (T.setTop g) U ∧ U.status = .running ∧ Ended U below (.returned v) ∧ (Fr n0 L ∧ Keep h0 U.heap ws ∧ Q v U.heap) ∧ FrameEnd s (.returned v) U L R.cells R.slots
/-- the contract of a callee: called with these arguments at this heap it returns, writes old cells of ws alone, and Q holds -/
def Mt (l : Launch) (Z : State) (y : MethodName) (bytes : ByteArray) (maxL : Nat) (rt : Option FieldType) (cs : List Jvm.Cond) (rm : Room) (n0 : Nat) (as' : Array Value) (h : Heap) (ws : List Addr) (Q : Option Value → Heap → Prop) : Prop :=
  MetFree l y (head1 (Jvm.Cond.code y bytes maxL rt :: cs) rm) (fun a U => a = as' ∧ Z.Warmed39 U.vm ∧ U.heap = h) (fun _ _ _ _ _ => True) (fun _ U o U' => ∃ v L, o = .returned v ∧ (Fr n0 L ∧ Keep h U'.heap ws ∧ Q v U'.heap) ∧ FrameEnd U o U' L rm.cells rm.slots)
def RV (Q : Heap → Prop) : Option Value → Heap → Prop := fun v h => v = none ∧ Q h
def RI (Q : Int32 → Heap → Prop) : Option Value → Heap → Prop := fun v h => ∃ z : Int32, v = some (.int z) ∧ Q z h
def RJ (Q : Int64 → Heap → Prop) : Option Value → Heap → Prop := fun v h => ∃ z : Int64, v = some (.long z) ∧ Q z h
def RA (Q : Addr → Heap → Prop) : Option Value → Heap → Prop := fun v h => ∃ z : Addr, v = some (.ref z) ∧ Q z h
theorem G.mono {g : JFrame} {cells' slots' : Nat} (hc : cells ≤ cells') (hs : slots ≤ slots') (kk : G p l e R s m args below meth c n0 h0 ws Q cells' slots' h g) : G p l e R s m args below meth c n0 h0 ws Q cells slots h g := fun T locs k n X hk hn eT N K => kk T locs k n X (Nat.le_trans hk hc) (Nat.le_trans hn hs) eT N K
theorem G.stepX {g g' : JFrame} (stp : ∀ T locs k n t, Stand p l e R s m args below meth c T locs k n → T.heap = h → Steps p.tables e below (T.setTop g') t → Steps p.tables e below (T.setTop g) t) (kk : G p l e R s m args below meth c n0 h0 ws Q cells slots h g') : G p l e R s m args below meth c n0 h0 ws Q cells slots h g := fun T locs k n X hk hn eT N K => by
  obtain ⟨U, v, L, hs, r⟩ := kk T locs k n X hk hn eT N K
  exact ⟨U, v, L, stp T locs k n U X eT hs, r⟩
theorem G.stepT {g g' : JFrame} (stp : ∀ T locs k n, Stand p l e R s m args below meth c T locs k n → T.heap = h → ∃ T', Stand p l e R s m args below meth c T' locs k n ∧ T'.heap = h ∧ ∀ t, Steps p.tables e below (T'.setTop g') t → Steps p.tables e below (T.setTop g) t) (kk : G p l e R s m args below meth c n0 h0 ws Q cells slots h g') : G p l e R s m args below meth c n0 h0 ws Q cells slots h g := fun T locs k n X hk hn eT N K => by
  obtain ⟨T', X', e', stp'⟩ := stp T locs k n X eT
  obtain ⟨U, v, L, hs, r⟩ := kk T' locs k n X' hk hn e' N K
  exact ⟨U, v, L, stp' U hs, r⟩
theorem own_fr {a : Addr} (B : Cx p s m meth c Z own nm bytes maxL rt n0 h0 ws) (ha : a ∈ ws ∨ h0.size ≤ a) : n0 ≤ a := ha.elim (B.2.2.2.2.2 a) (Nat.le_trans B.2.2.2.2.1)
theorem G.wr {g g' : JFrame} {a : Addr} {sl : Nat} {v : Value} (B : Cx p s m meth c Z own nm bytes maxL rt n0 h0 ws) (ha : a ∈ ws ∨ h0.size ≤ a) (stp : ∀ T locs k n, Stand p l e R s m args below meth c T locs k n → T.heap = h → ∃ T' h', Stand p l e R s m args below meth c T' (locs ++ [⟨a, sl⟩]) k n ∧ T'.heap = h' ∧ Wr h h' a sl v ∧ ∀ t, Steps p.tables e below (T'.setTop g') t → Steps p.tables e below (T.setTop g) t) (kk : ∀ h', Wr h h' a sl v → G p l e R s m args below meth c n0 h0 ws Q cells slots h' g') : G p l e R s m args below meth c n0 h0 ws Q cells slots h g := fun T locs k n X hk hn eT N K => by
  obtain ⟨T', h', X', e', W, stp'⟩ := stp T locs k n X eT
  obtain ⟨U, v, L, hs, r⟩ := kk h' W T' _ k n X' hk hn e' (Fr.snoc X' N (own_fr B ha)) (K.wr W ha)
  exact ⟨U, v, L, stp' U hs, r⟩
theorem G.out {g : JFrame} {v : Option Value} (B : Cx p s m meth c Z own nm bytes maxL rt n0 h0 ws) (hv : rt = none → v = none) (hc : cells ≤ R.cells) (hs : slots ≤ R.slots) (hQ : Q v h)
    (stp : ∀ T locs k n fs, Stand p l e R s m args below meth c T locs k n → (∀ (f : JFrame) (acts : List Action), f.method = m → f.locked = none → f.entered = [] → (doReturn e (T.setTop f) acts v).1 = T.setFrames fs) → Steps p.tables e below (T.setTop g) (T.setFrames fs)) : G p l e R s m args below meth c n0 h0 ws Q cells slots h g := fun T locs k n X hk hn eT N K => by
  obtain ⟨fs, hr, hrun, hended, hW, hsame⟩ := X.leave (v := v) (fun q => hv (B.2.1.symm.trans q)) B.2.2.1
  refine ⟨T.setFrames fs, v, locs, stp T locs k n fs X hr, hrun, hended, ⟨N, ?_, ?_⟩, ⟨_, rfl⟩, hW, hsame.mono (Nat.le_trans hk hc) (Nat.le_trans hn hs)⟩
  · show Keep h0 T.heap ws
    rw [eT]; exact K
  · show Q v T.heap
    rw [eT]; exact hQ
theorem Mt.intro {y : MethodName} {cs : List Jvm.Cond} {as' : Array Value} (hpl : plainFor y = true) (hn : n0 ≤ h0.size) (hws : ∀ x ∈ ws, n0 ≤ x)
    (body : ∀ p e s m below meth c, Cx p s m meth c Z y.cls y.name bytes maxL rt n0 h0 ws → G p l e R s m as' below meth c n0 h0 ws Q 0 0 h0 (entryFrame m as' maxL)) : Mt l Z y bytes maxL rt cs R n0 as' h0 ws Q := by
  refine MetFree.of_bodySF hpl hisR ?_
  intro p e s m args below meth c s₁ Bd hml0 hP hK
  obtain ⟨rfl, hZ, hh⟩ := hP
  have B : Cx p s m meth c Z y.cls y.name bytes maxL rt n0 h0 ws := ⟨⟨Bd.exec, Bd.bytes, hml0, findClass_of_methodNamed Bd.named, hZ⟩, Bd.returns, Bd.notSynchronized, (name_of_methodNamed Bd.named Bd.method).1, hn, hws⟩
  have X0 : Stand p l e R s m args below meth c s₁ [] 0 0 := Stand.of_body Bd
  have e0 : s₁.heap = h0 := by rw [← hh, Bd.state]; rfl
  obtain ⟨U, v, L, hs, h1, h2, h3, h4⟩ := body p e s m below meth c B s₁ [] 0 0 X0 (Nat.le_refl _) (Nat.le_refl _) e0 (Fr.nil n0) (Keep.refl _ _)
  exact ⟨U, _, hs, h1, h2, v, L, rfl, h3, h4⟩
theorem G.entry {g g' : JFrame} (q : g = g') (kk : G p l e R s m args below meth c n0 h0 ws Q cells slots h g') : G p l e R s m args below meth c n0 h0 ws Q cells slots h g := q ▸ kk
theorem G.iloadN {k : Fin 4} {v : Int32} (B : Cx p s m meth c Z own nm bytes maxL rt n0 h0 ws) (hd : decode bytes pc = .ok (.iload_n k, 1)) (hl : ls[k.val]? = some (.val (.int v))) (hp : pc + 1 = pc') (kk : G p l e R s m args below meth c n0 h0 ws Q cells slots h (mkF m pc' ls (.int v :: st))) : G p l e R s m args below meth c n0 h0 ws Q cells slots h (mkF m pc ls st) := by
  subst hp
  exact G.stepX (fun T locs k n t X _ q => XS.iloadN X.here B.1.1 rfl (hb B.1.2.1 hd) hl q) kk
theorem G.iload {k : Nat} {v : Int32} (B : Cx p s m meth c Z own nm bytes maxL rt n0 h0 ws) (hd : decode bytes pc = .ok (.iload k, 2)) (hl : ls[k]? = some (.val (.int v))) (hp : pc + 2 = pc') (kk : G p l e R s m args below meth c n0 h0 ws Q cells slots h (mkF m pc' ls (.int v :: st))) : G p l e R s m args below meth c n0 h0 ws Q cells slots h (mkF m pc ls st) := by
  subst hp
  exact G.stepX (fun T locs k n t X _ q => XS.iload X.here B.1.1 rfl (hb B.1.2.1 hd) hl q) kk
theorem G.lloadN {k : Fin 4} {v : Int64} (B : Cx p s m meth c Z own nm bytes maxL rt n0 h0 ws) (hd : decode bytes pc = .ok (.lload_n k, 1)) (hl : ls[k.val]? = some (.val (.long v))) (hp : pc + 1 = pc') (kk : G p l e R s m args below meth c n0 h0 ws Q cells slots h (mkF m pc' ls (.long v :: st))) : G p l e R s m args below meth c n0 h0 ws Q cells slots h (mkF m pc ls st) := by
  subst hp
  exact G.stepX (fun T locs k n t X _ q => XS.lloadN X.here B.1.1 rfl (hb B.1.2.1 hd) hl q) kk
theorem G.lload {k : Nat} {v : Int64} (B : Cx p s m meth c Z own nm bytes maxL rt n0 h0 ws) (hd : decode bytes pc = .ok (.lload k, 2)) (hl : ls[k]? = some (.val (.long v))) (hp : pc + 2 = pc') (kk : G p l e R s m args below meth c n0 h0 ws Q cells slots h (mkF m pc' ls (.long v :: st))) : G p l e R s m args below meth c n0 h0 ws Q cells slots h (mkF m pc ls st) := by
  subst hp
  exact G.stepX (fun T locs k n t X _ q => XS.lload X.here B.1.1 rfl (hb B.1.2.1 hd) hl q) kk
theorem G.aloadN {k : Fin 4} {v : Value} (B : Cx p s m meth c Z own nm bytes maxL rt n0 h0 ws) (hd : decode bytes pc = .ok (.aload_n k, 1)) (hl : ls[k.val]? = some (.val v)) (hv : v.isRef = true) (hp : pc + 1 = pc') (kk : G p l e R s m args below meth c n0 h0 ws Q cells slots h (mkF m pc' ls (v :: st))) : G p l e R s m args below meth c n0 h0 ws Q cells slots h (mkF m pc ls st) := by
  subst hp
  exact G.stepX (fun T locs k n t X _ q => XS.aloadN X.here B.1.1 rfl (hb B.1.2.1 hd) hl hv q) kk
theorem G.aload {k : Nat} {v : Value} (B : Cx p s m meth c Z own nm bytes maxL rt n0 h0 ws) (hd : decode bytes pc = .ok (.aload k, 2)) (hl : ls[k]? = some (.val v)) (hv : v.isRef = true) (hp : pc + 2 = pc') (kk : G p l e R s m args below meth c n0 h0 ws Q cells slots h (mkF m pc' ls (v :: st))) : G p l e R s m args below meth c n0 h0 ws Q cells slots h (mkF m pc ls st) := by
  subst hp
  exact G.stepX (fun T locs k n t X _ q => XS.aload X.here B.1.1 rfl (hb B.1.2.1 hd) hl hv q) kk
theorem G.istoreN {k : Fin 4} {v : Int32} (B : Cx p s m meth c Z own nm bytes maxL rt n0 h0 ws) (hd : decode bytes pc = .ok (.istore_n k, 1)) (hl : storeLocals ls k.val (.int v) = some ls') (hp : pc + 1 = pc') (kk : G p l e R s m args below meth c n0 h0 ws Q cells slots h (mkF m pc' ls' st)) : G p l e R s m args below meth c n0 h0 ws Q cells slots h (mkF m pc ls (.int v :: st)) := by
  subst hp
  exact G.stepX (fun T locs k n t X _ q => XS.istoreN X.here B.1.1 rfl (hb B.1.2.1 hd) rfl hl q) kk
theorem G.istore {k : Nat} {v : Int32} (B : Cx p s m meth c Z own nm bytes maxL rt n0 h0 ws) (hd : decode bytes pc = .ok (.istore k, 2)) (hl : storeLocals ls k (.int v) = some ls') (hp : pc + 2 = pc') (kk : G p l e R s m args below meth c n0 h0 ws Q cells slots h (mkF m pc' ls' st)) : G p l e R s m args below meth c n0 h0 ws Q cells slots h (mkF m pc ls (.int v :: st)) := by
  subst hp
  exact G.stepX (fun T locs k n t X _ q => XS.istore X.here B.1.1 rfl (hb B.1.2.1 hd) rfl hl q) kk
theorem G.lstoreN {k : Fin 4} {v : Int64} (B : Cx p s m meth c Z own nm bytes maxL rt n0 h0 ws) (hd : decode bytes pc = .ok (.lstore_n k, 1)) (hl : storeLocals ls k.val (.long v) = some ls') (hp : pc + 1 = pc') (kk : G p l e R s m args below meth c n0 h0 ws Q cells slots h (mkF m pc' ls' st)) : G p l e R s m args below meth c n0 h0 ws Q cells slots h (mkF m pc ls (.long v :: st)) := by
  subst hp
  exact G.stepX (fun T locs k n t X _ q => XS.lstoreN X.here B.1.1 rfl (hb B.1.2.1 hd) rfl hl q) kk
theorem G.lstore {k : Nat} {v : Int64} (B : Cx p s m meth c Z own nm bytes maxL rt n0 h0 ws) (hd : decode bytes pc = .ok (.lstore k, 2)) (hl : storeLocals ls k (.long v) = some ls') (hp : pc + 2 = pc') (kk : G p l e R s m args below meth c n0 h0 ws Q cells slots h (mkF m pc' ls' st)) : G p l e R s m args below meth c n0 h0 ws Q cells slots h (mkF m pc ls (.long v :: st)) := by
  subst hp
  exact G.stepX (fun T locs k n t X _ q => XS.lstore X.here B.1.1 rfl (hb B.1.2.1 hd) rfl hl q) kk
theorem G.astoreN {k : Fin 4} {v : Value} (B : Cx p s m meth c Z own nm bytes maxL rt n0 h0 ws) (hd : decode bytes pc = .ok (.astore_n k, 1)) (hv : v.isRef = true) (hl : storeLocals ls k.val v = some ls') (hp : pc + 1 = pc') (kk : G p l e R s m args below meth c n0 h0 ws Q cells slots h (mkF m pc' ls' st)) : G p l e R s m args below meth c n0 h0 ws Q cells slots h (mkF m pc ls (v :: st)) := by
  subst hp
  exact G.stepX (fun T locs k n t X _ q => XS.astoreN X.here B.1.1 rfl (hb B.1.2.1 hd) rfl hv hl q) kk
theorem G.astore {k : Nat} {v : Value} (B : Cx p s m meth c Z own nm bytes maxL rt n0 h0 ws) (hd : decode bytes pc = .ok (.astore k, 2)) (hv : v.isRef = true) (hl : storeLocals ls k v = some ls') (hp : pc + 2 = pc') (kk : G p l e R s m args below meth c n0 h0 ws Q cells slots h (mkF m pc' ls' st)) : G p l e R s m args below meth c n0 h0 ws Q cells slots h (mkF m pc ls (v :: st)) := by
  subst hp
  exact G.stepX (fun T locs k n t X _ q => XS.astore X.here B.1.1 rfl (hb B.1.2.1 hd) rfl hv hl q) kk
theorem G.iconst {i : Int} {z : Int32} (B : Cx p s m meth c Z own nm bytes maxL rt n0 h0 ws) (hd : decode bytes pc = .ok (.iconst i, 1)) (hz : Int32.ofInt i = z) (hp : pc + 1 = pc') (kk : G p l e R s m args below meth c n0 h0 ws Q cells slots h (mkF m pc' ls (.int z :: st))) : G p l e R s m args below meth c n0 h0 ws Q cells slots h (mkF m pc ls st) := by
  subst hp hz
  exact G.stepX (fun T locs k n t X _ q => XS.iconst X.here B.1.1 rfl (hb B.1.2.1 hd) q) kk
theorem G.bipush {i : Int} {z : Int32} (B : Cx p s m meth c Z own nm bytes maxL rt n0 h0 ws) (hd : decode bytes pc = .ok (.bipush i, 2)) (hz : (Int8.ofInt i).toInt32 = z) (hp : pc + 2 = pc') (kk : G p l e R s m args below meth c n0 h0 ws Q cells slots h (mkF m pc' ls (.int z :: st))) : G p l e R s m args below meth c n0 h0 ws Q cells slots h (mkF m pc ls st) := by
  subst hp hz
  exact G.stepX (fun T locs k n t X _ q => XS.bipush X.here B.1.1 rfl (hb B.1.2.1 hd) q) kk
theorem G.sipush {i : Int} {z : Int32} (B : Cx p s m meth c Z own nm bytes maxL rt n0 h0 ws) (hd : decode bytes pc = .ok (.sipush i, 3)) (hz : (Int16.ofInt i).toInt32 = z) (hp : pc + 3 = pc') (kk : G p l e R s m args below meth c n0 h0 ws Q cells slots h (mkF m pc' ls (.int z :: st))) : G p l e R s m args below meth c n0 h0 ws Q cells slots h (mkF m pc ls st) := by
  subst hp hz
  exact G.stepX (fun T locs k n t X _ q => XS.sipush X.here B.1.1 rfl (hb B.1.2.1 hd) q) kk
theorem G.lconst {i : Fin 2} {z : Int64} (B : Cx p s m meth c Z own nm bytes maxL rt n0 h0 ws) (hd : decode bytes pc = .ok (.lconst i, 1)) (hz : Int64.ofNat i = z) (hp : pc + 1 = pc') (kk : G p l e R s m args below meth c n0 h0 ws Q cells slots h (mkF m pc' ls (.long z :: st))) : G p l e R s m args below meth c n0 h0 ws Q cells slots h (mkF m pc ls st) := by
  subst hp hz
  exact G.stepX (fun T locs k n t X _ q => XS.lconst X.here B.1.1 rfl (hb B.1.2.1 hd) q) kk
theorem G.aconstNull (B : Cx p s m meth c Z own nm bytes maxL rt n0 h0 ws) (hd : decode bytes pc = .ok (.aconst_null, 1)) (hp : pc + 1 = pc') (kk : G p l e R s m args below meth c n0 h0 ws Q cells slots h (mkF m pc' ls (.null :: st))) : G p l e R s m args below meth c n0 h0 ws Q cells slots h (mkF m pc ls st) := by
  subst hp
  exact G.stepX (fun T locs k n t X _ q => XS.aconstNull X.here B.1.1 rfl (hb B.1.2.1 hd) q) kk
theorem G.iadd {x y : Int32} (B : Cx p s m meth c Z own nm bytes maxL rt n0 h0 ws) (hd : decode bytes pc = .ok (.iadd, 1)) (hp : pc + 1 = pc') (kk : G p l e R s m args below meth c n0 h0 ws Q cells slots h (mkF m pc' ls (.int (x + y) :: st))) : G p l e R s m args below meth c n0 h0 ws Q cells slots h (mkF m pc ls (.int y :: .int x :: st)) := by
  subst hp
  exact G.stepX (fun T locs k n t X _ q => XS.iadd X.here B.1.1 rfl (hb B.1.2.1 hd) rfl q) kk
theorem G.ladd {x y : Int64} (B : Cx p s m meth c Z own nm bytes maxL rt n0 h0 ws) (hd : decode bytes pc = .ok (.ladd, 1)) (hp : pc + 1 = pc') (kk : G p l e R s m args below meth c n0 h0 ws Q cells slots h (mkF m pc' ls (.long (x + y) :: st))) : G p l e R s m args below meth c n0 h0 ws Q cells slots h (mkF m pc ls (.long y :: .long x :: st)) := by
  subst hp
  exact G.stepX (fun T locs k n t X _ q => XS.ladd X.here B.1.1 rfl (hb B.1.2.1 hd) rfl q) kk
theorem G.isub {x y : Int32} (B : Cx p s m meth c Z own nm bytes maxL rt n0 h0 ws) (hd : decode bytes pc = .ok (.isub, 1)) (hp : pc + 1 = pc') (kk : G p l e R s m args below meth c n0 h0 ws Q cells slots h (mkF m pc' ls (.int (x - y) :: st))) : G p l e R s m args below meth c n0 h0 ws Q cells slots h (mkF m pc ls (.int y :: .int x :: st)) := by
  subst hp
  exact G.stepX (fun T locs k n t X _ q => XS.isub X.here B.1.1 rfl (hb B.1.2.1 hd) rfl q) kk
theorem G.lsub {x y : Int64} (B : Cx p s m meth c Z own nm bytes maxL rt n0 h0 ws) (hd : decode bytes pc = .ok (.lsub, 1)) (hp : pc + 1 = pc') (kk : G p l e R s m args below meth c n0 h0 ws Q cells slots h (mkF m pc' ls (.long (x - y) :: st))) : G p l e R s m args below meth c n0 h0 ws Q cells slots h (mkF m pc ls (.long y :: .long x :: st)) := by
  subst hp
  exact G.stepX (fun T locs k n t X _ q => XS.lsub X.here B.1.1 rfl (hb B.1.2.1 hd) rfl q) kk
theorem G.imul {x y : Int32} (B : Cx p s m meth c Z own nm bytes maxL rt n0 h0 ws) (hd : decode bytes pc = .ok (.imul, 1)) (hp : pc + 1 = pc') (kk : G p l e R s m args below meth c n0 h0 ws Q cells slots h (mkF m pc' ls (.int (x * y) :: st))) : G p l e R s m args below meth c n0 h0 ws Q cells slots h (mkF m pc ls (.int y :: .int x :: st)) := by
  subst hp
  exact G.stepX (fun T locs k n t X _ q => XS.imul X.here B.1.1 rfl (hb B.1.2.1 hd) rfl q) kk
theorem G.lmul {x y : Int64} (B : Cx p s m meth c Z own nm bytes maxL rt n0 h0 ws) (hd : decode bytes pc = .ok (.lmul, 1)) (hp : pc + 1 = pc') (kk : G p l e R s m args below meth c n0 h0 ws Q cells slots h (mkF m pc' ls (.long (x * y) :: st))) : G p l e R s m args below meth c n0 h0 ws Q cells slots h (mkF m pc ls (.long y :: .long x :: st)) := by
  subst hp
  exact G.stepX (fun T locs k n t X _ q => XS.lmul X.here B.1.1 rfl (hb B.1.2.1 hd) rfl q) kk
theorem G.iand {x y : Int32} (B : Cx p s m meth c Z own nm bytes maxL rt n0 h0 ws) (hd : decode bytes pc = .ok (.iand, 1)) (hp : pc + 1 = pc') (kk : G p l e R s m args below meth c n0 h0 ws Q cells slots h (mkF m pc' ls (.int (x &&& y) :: st))) : G p l e R s m args below meth c n0 h0 ws Q cells slots h (mkF m pc ls (.int y :: .int x :: st)) := by
  subst hp
  exact G.stepX (fun T locs k n t X _ q => XS.iand X.here B.1.1 rfl (hb B.1.2.1 hd) rfl q) kk
theorem G.land {x y : Int64} (B : Cx p s m meth c Z own nm bytes maxL rt n0 h0 ws) (hd : decode bytes pc = .ok (.land, 1)) (hp : pc + 1 = pc') (kk : G p l e R s m args below meth c n0 h0 ws Q cells slots h (mkF m pc' ls (.long (x &&& y) :: st))) : G p l e R s m args below meth c n0 h0 ws Q cells slots h (mkF m pc ls (.long y :: .long x :: st)) := by
  subst hp
  exact G.stepX (fun T locs k n t X _ q => XS.land X.here B.1.1 rfl (hb B.1.2.1 hd) rfl q) kk
theorem G.ior {x y : Int32} (B : Cx p s m meth c Z own nm bytes maxL rt n0 h0 ws) (hd : decode bytes pc = .ok (.ior, 1)) (hp : pc + 1 = pc') (kk : G p l e R s m args below meth c n0 h0 ws Q cells slots h (mkF m pc' ls (.int (x ||| y) :: st))) : G p l e R s m args below meth c n0 h0 ws Q cells slots h (mkF m pc ls (.int y :: .int x :: st)) := by
  subst hp
  exact G.stepX (fun T locs k n t X _ q => XS.ior X.here B.1.1 rfl (hb B.1.2.1 hd) rfl q) kk
theorem G.lor {x y : Int64} (B : Cx p s m meth c Z own nm bytes maxL rt n0 h0 ws) (hd : decode bytes pc = .ok (.lor, 1)) (hp : pc + 1 = pc') (kk : G p l e R s m args below meth c n0 h0 ws Q cells slots h (mkF m pc' ls (.long (x ||| y) :: st))) : G p l e R s m args below meth c n0 h0 ws Q cells slots h (mkF m pc ls (.long y :: .long x :: st)) := by
  subst hp
  exact G.stepX (fun T locs k n t X _ q => XS.lor X.here B.1.1 rfl (hb B.1.2.1 hd) rfl q) kk
theorem G.ixor {x y : Int32} (B : Cx p s m meth c Z own nm bytes maxL rt n0 h0 ws) (hd : decode bytes pc = .ok (.ixor, 1)) (hp : pc + 1 = pc') (kk : G p l e R s m args below meth c n0 h0 ws Q cells slots h (mkF m pc' ls (.int (x ^^^ y) :: st))) : G p l e R s m args below meth c n0 h0 ws Q cells slots h (mkF m pc ls (.int y :: .int x :: st)) := by
  subst hp
  exact G.stepX (fun T locs k n t X _ q => XS.ixor X.here B.1.1 rfl (hb B.1.2.1 hd) rfl q) kk
theorem G.lxor {x y : Int64} (B : Cx p s m meth c Z own nm bytes maxL rt n0 h0 ws) (hd : decode bytes pc = .ok (.lxor, 1)) (hp : pc + 1 = pc') (kk : G p l e R s m args below meth c n0 h0 ws Q cells slots h (mkF m pc' ls (.long (x ^^^ y) :: st))) : G p l e R s m args below meth c n0 h0 ws Q cells slots h (mkF m pc ls (.long y :: .long x :: st)) := by
  subst hp
  exact G.stepX (fun T locs k n t X _ q => XS.lxor X.here B.1.1 rfl (hb B.1.2.1 hd) rfl q) kk
theorem G.idiv {x y : Int32} (B : Cx p s m meth c Z own nm bytes maxL rt n0 h0 ws) (hd : decode bytes pc = .ok (.idiv, 1)) (hy : y ≠ 0) (hp : pc + 1 = pc') (kk : G p l e R s m args below meth c n0 h0 ws Q cells slots h (mkF m pc' ls (.int (x / y) :: st))) : G p l e R s m args below meth c n0 h0 ws Q cells slots h (mkF m pc ls (.int y :: .int x :: st)) := by
  subst hp
  exact G.stepX (fun T locs k n t X _ q => XS.idiv X.here B.1.1 rfl (hb B.1.2.1 hd) rfl hy q) kk
theorem G.irem {x y : Int32} (B : Cx p s m meth c Z own nm bytes maxL rt n0 h0 ws) (hd : decode bytes pc = .ok (.irem, 1)) (hy : y ≠ 0) (hp : pc + 1 = pc') (kk : G p l e R s m args below meth c n0 h0 ws Q cells slots h (mkF m pc' ls (.int (x % y) :: st))) : G p l e R s m args below meth c n0 h0 ws Q cells slots h (mkF m pc ls (.int y :: .int x :: st)) := by
  subst hp
  exact G.stepX (fun T locs k n t X _ q => Jvm.RoadKit.iremM X B.1.1 rfl (hb B.1.2.1 hd) rfl hy q) kk
theorem G.ldiv {x y : Int64} (B : Cx p s m meth c Z own nm bytes maxL rt n0 h0 ws) (hd : decode bytes pc = .ok (.ldiv, 1)) (hy : y ≠ 0) (hp : pc + 1 = pc') (kk : G p l e R s m args below meth c n0 h0 ws Q cells slots h (mkF m pc' ls (.long (x / y) :: st))) : G p l e R s m args below meth c n0 h0 ws Q cells slots h (mkF m pc ls (.long y :: .long x :: st)) := by
  subst hp
  exact G.stepX (fun T locs k n t X _ q => XS.ldiv X.here B.1.1 rfl (hb B.1.2.1 hd) rfl hy q) kk
theorem G.lrem {x y : Int64} (B : Cx p s m meth c Z own nm bytes maxL rt n0 h0 ws) (hd : decode bytes pc = .ok (.lrem, 1)) (hy : y ≠ 0) (hp : pc + 1 = pc') (kk : G p l e R s m args below meth c n0 h0 ws Q cells slots h (mkF m pc' ls (.long (x % y) :: st))) : G p l e R s m args below meth c n0 h0 ws Q cells slots h (mkF m pc ls (.long y :: .long x :: st)) := by
  subst hp
  rw [← lrem_mod] at kk
  exact G.stepX (fun T locs k n t X _ q => XS.lrem X.here B.1.1 rfl (hb B.1.2.1 hd) rfl hy q) kk
theorem G.ishl {x y : Int32} (B : Cx p s m meth c Z own nm bytes maxL rt n0 h0 ws) (hd : decode bytes pc = .ok (.ishl, 1)) (hp : pc + 1 = pc') (kk : G p l e R s m args below meth c n0 h0 ws Q cells slots h (mkF m pc' ls (.int (x <<< (y &&& 31)) :: st))) : G p l e R s m args below meth c n0 h0 ws Q cells slots h (mkF m pc ls (.int y :: .int x :: st)) := by
  subst hp
  exact G.stepX (fun T locs k n t X _ q => XS.ishl X.here B.1.1 rfl (hb B.1.2.1 hd) rfl q) kk
theorem G.ishr {x y : Int32} (B : Cx p s m meth c Z own nm bytes maxL rt n0 h0 ws) (hd : decode bytes pc = .ok (.ishr, 1)) (hp : pc + 1 = pc') (kk : G p l e R s m args below meth c n0 h0 ws Q cells slots h (mkF m pc' ls (.int (x >>> (y &&& 31)) :: st))) : G p l e R s m args below meth c n0 h0 ws Q cells slots h (mkF m pc ls (.int y :: .int x :: st)) := by
  subst hp
  exact G.stepX (fun T locs k n t X _ q => XS.ishr X.here B.1.1 rfl (hb B.1.2.1 hd) rfl q) kk
theorem G.iushr {x y : Int32} (B : Cx p s m meth c Z own nm bytes maxL rt n0 h0 ws) (hd : decode bytes pc = .ok (.iushr, 1)) (hp : pc + 1 = pc') (kk : G p l e R s m args below meth c n0 h0 ws Q cells slots h (mkF m pc' ls (.int ((x.toUInt32 >>> (y &&& 31).toUInt32).toInt32) :: st))) : G p l e R s m args below meth c n0 h0 ws Q cells slots h (mkF m pc ls (.int y :: .int x :: st)) := by
  subst hp
  exact G.stepX (fun T locs k n t X _ q => XS.iushr X.here B.1.1 rfl (hb B.1.2.1 hd) rfl q) kk
theorem G.lshl {x : Int64} {y : Int32} (B : Cx p s m meth c Z own nm bytes maxL rt n0 h0 ws) (hd : decode bytes pc = .ok (.lshl, 1)) (hp : pc + 1 = pc') (kk : G p l e R s m args below meth c n0 h0 ws Q cells slots h (mkF m pc' ls (.long (x <<< (y &&& 0x3f).toInt64) :: st))) : G p l e R s m args below meth c n0 h0 ws Q cells slots h (mkF m pc ls (.int y :: .long x :: st)) := by
  subst hp
  exact G.stepX (fun T locs k n t X _ q => XS.lshl X.here B.1.1 rfl (hb B.1.2.1 hd) rfl q) kk
theorem G.lshr {x : Int64} {y : Int32} (B : Cx p s m meth c Z own nm bytes maxL rt n0 h0 ws) (hd : decode bytes pc = .ok (.lshr, 1)) (hp : pc + 1 = pc') (kk : G p l e R s m args below meth c n0 h0 ws Q cells slots h (mkF m pc' ls (.long (x >>> (y &&& 0x3f).toInt64) :: st))) : G p l e R s m args below meth c n0 h0 ws Q cells slots h (mkF m pc ls (.int y :: .long x :: st)) := by
  subst hp
  exact G.stepX (fun T locs k n t X _ q => XS.lshr X.here B.1.1 rfl (hb B.1.2.1 hd) rfl q) kk
theorem G.lushr {x : Int64} {y : Int32} (B : Cx p s m meth c Z own nm bytes maxL rt n0 h0 ws) (hd : decode bytes pc = .ok (.lushr, 1)) (hp : pc + 1 = pc') (kk : G p l e R s m args below meth c n0 h0 ws Q cells slots h (mkF m pc' ls (.long ((x.toUInt64 >>> (y &&& 0x3f).toInt64.toUInt64).toInt64) :: st))) : G p l e R s m args below meth c n0 h0 ws Q cells slots h (mkF m pc ls (.int y :: .long x :: st)) := by
  subst hp
  exact G.stepX (fun T locs k n t X _ q => XS.lushr X.here B.1.1 rfl (hb B.1.2.1 hd) rfl q) kk
theorem G.ineg {x : Int32} (B : Cx p s m meth c Z own nm bytes maxL rt n0 h0 ws) (hd : decode bytes pc = .ok (.ineg, 1)) (hp : pc + 1 = pc') (kk : G p l e R s m args below meth c n0 h0 ws Q cells slots h (mkF m pc' ls (.int (-x) :: st))) : G p l e R s m args below meth c n0 h0 ws Q cells slots h (mkF m pc ls (.int x :: st)) := by
  subst hp
  exact G.stepX (fun T locs k n t X _ q => XS.ineg X.here B.1.1 rfl (hb B.1.2.1 hd) rfl q) kk
theorem G.lneg {x : Int64} (B : Cx p s m meth c Z own nm bytes maxL rt n0 h0 ws) (hd : decode bytes pc = .ok (.lneg, 1)) (hp : pc + 1 = pc') (kk : G p l e R s m args below meth c n0 h0 ws Q cells slots h (mkF m pc' ls (.long (-x) :: st))) : G p l e R s m args below meth c n0 h0 ws Q cells slots h (mkF m pc ls (.long x :: st)) := by
  subst hp
  exact G.stepX (fun T locs k n t X _ q => XS.lneg X.here B.1.1 rfl (hb B.1.2.1 hd) rfl q) kk
theorem G.i2l {x : Int32} (B : Cx p s m meth c Z own nm bytes maxL rt n0 h0 ws) (hd : decode bytes pc = .ok (.i2l, 1)) (hp : pc + 1 = pc') (kk : G p l e R s m args below meth c n0 h0 ws Q cells slots h (mkF m pc' ls (.long x.toInt64 :: st))) : G p l e R s m args below meth c n0 h0 ws Q cells slots h (mkF m pc ls (.int x :: st)) := by
  subst hp
  exact G.stepX (fun T locs k n t X _ q => XS.i2l X.here B.1.1 rfl (hb B.1.2.1 hd) rfl q) kk
theorem G.l2i {x : Int64} (B : Cx p s m meth c Z own nm bytes maxL rt n0 h0 ws) (hd : decode bytes pc = .ok (.l2i, 1)) (hp : pc + 1 = pc') (kk : G p l e R s m args below meth c n0 h0 ws Q cells slots h (mkF m pc' ls (.int x.toInt32 :: st))) : G p l e R s m args below meth c n0 h0 ws Q cells slots h (mkF m pc ls (.long x :: st)) := by
  subst hp
  exact G.stepX (fun T locs k n t X _ q => XS.l2i X.here B.1.1 rfl (hb B.1.2.1 hd) rfl q) kk
theorem G.i2b {x : Int32} (B : Cx p s m meth c Z own nm bytes maxL rt n0 h0 ws) (hd : decode bytes pc = .ok (.i2b, 1)) (hp : pc + 1 = pc') (kk : G p l e R s m args below meth c n0 h0 ws Q cells slots h (mkF m pc' ls (.int x.toInt8.toInt32 :: st))) : G p l e R s m args below meth c n0 h0 ws Q cells slots h (mkF m pc ls (.int x :: st)) := by
  subst hp
  exact G.stepX (fun T locs k n t X _ q => XS.i2b X.here B.1.1 rfl (hb B.1.2.1 hd) rfl q) kk
theorem G.i2s {x : Int32} (B : Cx p s m meth c Z own nm bytes maxL rt n0 h0 ws) (hd : decode bytes pc = .ok (.i2s, 1)) (hp : pc + 1 = pc') (kk : G p l e R s m args below meth c n0 h0 ws Q cells slots h (mkF m pc' ls (.int x.toInt16.toInt32 :: st))) : G p l e R s m args below meth c n0 h0 ws Q cells slots h (mkF m pc ls (.int x :: st)) := by
  subst hp
  exact G.stepX (fun T locs k n t X _ q => XS.i2s X.here B.1.1 rfl (hb B.1.2.1 hd) rfl q) kk
theorem G.i2c {x : Int32} (B : Cx p s m meth c Z own nm bytes maxL rt n0 h0 ws) (hd : decode bytes pc = .ok (.i2c, 1)) (hp : pc + 1 = pc') (kk : G p l e R s m args below meth c n0 h0 ws Q cells slots h (mkF m pc' ls (.int x.toUInt32.toUInt16.toUInt32.toInt32 :: st))) : G p l e R s m args below meth c n0 h0 ws Q cells slots h (mkF m pc ls (.int x :: st)) := by
  subst hp
  exact G.stepX (fun T locs k n t X _ q => XS.i2c X.here B.1.1 rfl (hb B.1.2.1 hd) rfl q) kk
theorem G.lcmp {x y : Int64} (B : Cx p s m meth c Z own nm bytes maxL rt n0 h0 ws) (hd : decode bytes pc = .ok (.lcmp, 1)) (hp : pc + 1 = pc') (kk : G p l e R s m args below meth c n0 h0 ws Q cells slots h (mkF m pc' ls (.int (lcmpW x y) :: st))) : G p l e R s m args below meth c n0 h0 ws Q cells slots h (mkF m pc ls (.long y :: .long x :: st)) := by
  subst hp
  exact G.stepX (fun T locs k n t X _ q => XS.lcmp X.here B.1.1 rfl (hb B.1.2.1 hd) rfl q) kk
theorem G.iinc {k : Nat} {cst : Int} {x z : Int32} (B : Cx p s m meth c Z own nm bytes maxL rt n0 h0 ws) (hd : decode bytes pc = .ok (.iinc k cst, 3)) (hl : ls[k]? = some (.val (.int x))) (hz : x + Int32.ofInt cst = z) (hl' : storeLocals ls k (.int z) = some ls') (hp : pc + 3 = pc') (kk : G p l e R s m args below meth c n0 h0 ws Q cells slots h (mkF m pc' ls' st)) : G p l e R s m args below meth c n0 h0 ws Q cells slots h (mkF m pc ls st) := by
  subst hp
  exact G.stepX (fun T locs k n t X _ q => XS.iinc X.here B.1.1 rfl (hb B.1.2.1 hd) hl (by rw [hz]; exact hl') q) kk
theorem G.dup {v : Value} (B : Cx p s m meth c Z own nm bytes maxL rt n0 h0 ws) (hd : decode bytes pc = .ok (.dup, 1)) (hc : v.category = 1) (hp : pc + 1 = pc') (kk : G p l e R s m args below meth c n0 h0 ws Q cells slots h (mkF m pc' ls (v :: v :: st))) : G p l e R s m args below meth c n0 h0 ws Q cells slots h (mkF m pc ls (v :: st)) := by
  subst hp
  exact G.stepX (fun T locs k n t X _ q => XS.dup X.here B.1.1 rfl (hb B.1.2.1 hd) rfl hc q) kk
theorem G.pop {v : Value} (B : Cx p s m meth c Z own nm bytes maxL rt n0 h0 ws) (hd : decode bytes pc = .ok (.pop, 1)) (hc : v.category = 1) (hp : pc + 1 = pc') (kk : G p l e R s m args below meth c n0 h0 ws Q cells slots h (mkF m pc' ls st)) : G p l e R s m args below meth c n0 h0 ws Q cells slots h (mkF m pc ls (v :: st)) := by
  subst hp
  exact G.stepX (fun T locs k n t X _ q => XS.pop X.here B.1.1 rfl (hb B.1.2.1 hd) rfl hc q) kk
theorem G.dupX1 {v w : Value} (B : Cx p s m meth c Z own nm bytes maxL rt n0 h0 ws) (hd : decode bytes pc = .ok (.dup_x1, 1)) (hc : v.category = 1) (hc' : w.category = 1) (hp : pc + 1 = pc') (kk : G p l e R s m args below meth c n0 h0 ws Q cells slots h (mkF m pc' ls (v :: w :: v :: st))) : G p l e R s m args below meth c n0 h0 ws Q cells slots h (mkF m pc ls (v :: w :: st)) := by
  subst hp
  exact G.stepX (fun T locs k n t X _ q => XS.dupX1 X.here B.1.1 rfl (hb B.1.2.1 hd) rfl hc hc' q) kk
theorem G.dup2 {v w : Value} (B : Cx p s m meth c Z own nm bytes maxL rt n0 h0 ws) (hd : decode bytes pc = .ok (.dup2, 1)) (hc : v.category = 1) (hc' : w.category = 1) (hp : pc + 1 = pc') (kk : G p l e R s m args below meth c n0 h0 ws Q cells slots h (mkF m pc' ls (v :: w :: v :: w :: st))) : G p l e R s m args below meth c n0 h0 ws Q cells slots h (mkF m pc ls (v :: w :: st)) := by
  subst hp
  exact G.stepX (fun T locs k n t X _ q => XT.dup2 X.here B.1.1 rfl (hb B.1.2.1 hd) rfl hc hc' q) kk
theorem G.goto {o : Int} (B : Cx p s m meth c Z own nm bytes maxL rt n0 h0 ws) (hd : decode bytes pc = .ok (.goto o, 3)) (ho : 0 ≤ (pc : Int) + o) (hp : ((pc : Int) + o).toNat = pc') (kk : G p l e R s m args below meth c n0 h0 ws Q cells slots h (mkF m pc' ls st)) : G p l e R s m args below meth c n0 h0 ws Q cells slots h (mkF m pc ls st) := by
  exact G.stepX (fun T locs k n t X _ q => XS.goto X.here B.1.1 rfl (pc0 := pc) (pc' := pc') rfl (hb B.1.2.1 hd) ho hp q) kk
theorem own_nlt {x y : Int32} (h : y.toInt ≤ x.toInt) : ¬ x < y := fun q => by rw [Int32.lt_iff_toInt_lt] at q; omega
theorem own_ylt {x y : Int32} (h : x.toInt < y.toInt) : x < y := Int32.lt_iff_toInt_lt.mpr h
theorem G.icmp_eq {x y : Int32} {o : Int} {pcT : Nat} (B : Cx p s m meth c Z own nm bytes maxL rt n0 h0 ws) (hd : decode bytes pc = .ok (.if_icmp .eq o, 3)) (ho : 0 ≤ (pc : Int) + o) (hT : ((pc : Int) + o).toNat = pcT) (hp : pc + 3 = pc') (k1 : x = y → G p l e R s m args below meth c n0 h0 ws Q cells slots h (mkF m pcT ls st)) (k2 : x ≠ y → G p l e R s m args below meth c n0 h0 ws Q cells slots h (mkF m pc' ls st)) : G p l e R s m args below meth c n0 h0 ws Q cells slots h (mkF m pc ls (.int y :: .int x :: st)) := by
  subst hp
  by_cases h : x = y
  · exact G.stepX (fun T locs k n t X _ q => XS.icmpYes X.here B.1.1 rfl (pc0 := pc) (pc' := pcT) rfl (hb B.1.2.1 hd) rfl (teq h).1 ho hT q) (k1 h)
  · exact G.stepX (fun T locs k n t X _ q => XS.icmpNo X.here B.1.1 rfl (hb B.1.2.1 hd) rfl (feq h).1 q) (k2 h)
theorem G.if_eq {x : Int32} {o : Int} {pcT : Nat} (B : Cx p s m meth c Z own nm bytes maxL rt n0 h0 ws) (hd : decode bytes pc = .ok (.ifCond .eq o, 3)) (ho : 0 ≤ (pc : Int) + o) (hT : ((pc : Int) + o).toNat = pcT) (hp : pc + 3 = pc') (k1 : x = 0 → G p l e R s m args below meth c n0 h0 ws Q cells slots h (mkF m pcT ls st)) (k2 : x ≠ 0 → G p l e R s m args below meth c n0 h0 ws Q cells slots h (mkF m pc' ls st)) : G p l e R s m args below meth c n0 h0 ws Q cells slots h (mkF m pc ls (.int x :: st)) := by
  subst hp
  by_cases h : x = 0
  · exact G.stepX (fun T locs k n t X _ q => XS.ifYes X.here B.1.1 rfl (pc0 := pc) (pc' := pcT) rfl (hb B.1.2.1 hd) rfl ((if0 _ _).trans (teq h).1) ho hT q) (k1 h)
  · exact G.stepX (fun T locs k n t X _ q => XS.ifNo X.here B.1.1 rfl (hb B.1.2.1 hd) rfl ((if0 _ _).trans (feq h).1) q) (k2 h)
theorem G.lcmp_eq {x y : Int64} {o : Int} {pc1 pcT : Nat} (B : Cx p s m meth c Z own nm bytes maxL rt n0 h0 ws) (hd0 : decode bytes pc = .ok (.lcmp, 1)) (hp0 : pc + 1 = pc1) (hd : decode bytes pc1 = .ok (.ifCond .eq o, 3)) (ho : 0 ≤ (pc1 : Int) + o) (hT : ((pc1 : Int) + o).toNat = pcT) (hp : pc1 + 3 = pc') (k1 : x = y → G p l e R s m args below meth c n0 h0 ws Q cells slots h (mkF m pcT ls st)) (k2 : x ≠ y → G p l e R s m args below meth c n0 h0 ws Q cells slots h (mkF m pc' ls st)) : G p l e R s m args below meth c n0 h0 ws Q cells slots h (mkF m pc ls (.long y :: .long x :: st)) :=
  G.lcmp B hd0 hp0 (G.if_eq B hd ho hT hp (fun q => k1 ((lw_eq x y).mp q)) (fun q => k2 (fun r => q ((lw_eq x y).mpr r))))
theorem G.icmp_ne {x y : Int32} {o : Int} {pcT : Nat} (B : Cx p s m meth c Z own nm bytes maxL rt n0 h0 ws) (hd : decode bytes pc = .ok (.if_icmp .ne o, 3)) (ho : 0 ≤ (pc : Int) + o) (hT : ((pc : Int) + o).toNat = pcT) (hp : pc + 3 = pc') (k1 : x ≠ y → G p l e R s m args below meth c n0 h0 ws Q cells slots h (mkF m pcT ls st)) (k2 : x = y → G p l e R s m args below meth c n0 h0 ws Q cells slots h (mkF m pc' ls st)) : G p l e R s m args below meth c n0 h0 ws Q cells slots h (mkF m pc ls (.int y :: .int x :: st)) := by
  subst hp
  by_cases h : x ≠ y
  · exact G.stepX (fun T locs k n t X _ q => XS.icmpYes X.here B.1.1 rfl (pc0 := pc) (pc' := pcT) rfl (hb B.1.2.1 hd) rfl (feq h).2 ho hT q) (k1 h)
  · replace h : x = y := Decidable.of_not_not h
    exact G.stepX (fun T locs k n t X _ q => XS.icmpNo X.here B.1.1 rfl (hb B.1.2.1 hd) rfl (teq h).2 q) (k2 h)
theorem G.if_ne {x : Int32} {o : Int} {pcT : Nat} (B : Cx p s m meth c Z own nm bytes maxL rt n0 h0 ws) (hd : decode bytes pc = .ok (.ifCond .ne o, 3)) (ho : 0 ≤ (pc : Int) + o) (hT : ((pc : Int) + o).toNat = pcT) (hp : pc + 3 = pc') (k1 : x ≠ 0 → G p l e R s m args below meth c n0 h0 ws Q cells slots h (mkF m pcT ls st)) (k2 : x = 0 → G p l e R s m args below meth c n0 h0 ws Q cells slots h (mkF m pc' ls st)) : G p l e R s m args below meth c n0 h0 ws Q cells slots h (mkF m pc ls (.int x :: st)) := by
  subst hp
  by_cases h : x ≠ 0
  · exact G.stepX (fun T locs k n t X _ q => XS.ifYes X.here B.1.1 rfl (pc0 := pc) (pc' := pcT) rfl (hb B.1.2.1 hd) rfl ((if0 _ _).trans (feq h).2) ho hT q) (k1 h)
  · replace h : x = 0 := Decidable.of_not_not h
    exact G.stepX (fun T locs k n t X _ q => XS.ifNo X.here B.1.1 rfl (hb B.1.2.1 hd) rfl ((if0 _ _).trans (teq h).2) q) (k2 h)
theorem G.lcmp_ne {x y : Int64} {o : Int} {pc1 pcT : Nat} (B : Cx p s m meth c Z own nm bytes maxL rt n0 h0 ws) (hd0 : decode bytes pc = .ok (.lcmp, 1)) (hp0 : pc + 1 = pc1) (hd : decode bytes pc1 = .ok (.ifCond .ne o, 3)) (ho : 0 ≤ (pc1 : Int) + o) (hT : ((pc1 : Int) + o).toNat = pcT) (hp : pc1 + 3 = pc') (k1 : x ≠ y → G p l e R s m args below meth c n0 h0 ws Q cells slots h (mkF m pcT ls st)) (k2 : x = y → G p l e R s m args below meth c n0 h0 ws Q cells slots h (mkF m pc' ls st)) : G p l e R s m args below meth c n0 h0 ws Q cells slots h (mkF m pc ls (.long y :: .long x :: st)) :=
  G.lcmp B hd0 hp0 (G.if_ne B hd ho hT hp (fun q => k1 (fun r => q ((lw_eq x y).mpr r))) (fun q => k2 ((lw_eq x y).mp q)))
theorem G.icmp_lt {x y : Int32} {o : Int} {pcT : Nat} (B : Cx p s m meth c Z own nm bytes maxL rt n0 h0 ws) (hd : decode bytes pc = .ok (.if_icmp .lt o, 3)) (ho : 0 ≤ (pc : Int) + o) (hT : ((pc : Int) + o).toNat = pcT) (hp : pc + 3 = pc') (k1 : x.toInt < y.toInt → G p l e R s m args below meth c n0 h0 ws Q cells slots h (mkF m pcT ls st)) (k2 : y.toInt ≤ x.toInt → G p l e R s m args below meth c n0 h0 ws Q cells slots h (mkF m pc' ls st)) : G p l e R s m args below meth c n0 h0 ws Q cells slots h (mkF m pc ls (.int y :: .int x :: st)) := by
  subst hp
  by_cases h : x.toInt < y.toInt
  · exact G.stepX (fun T locs k n t X _ q => XS.icmpYes X.here B.1.1 rfl (pc0 := pc) (pc' := pcT) rfl (hb B.1.2.1 hd) rfl (tlt (own_ylt h)).1 ho hT q) (k1 h)
  · replace h := Int.not_lt.mp h
    exact G.stepX (fun T locs k n t X _ q => XS.icmpNo X.here B.1.1 rfl (hb B.1.2.1 hd) rfl (flt (own_nlt h)).1 q) (k2 h)
theorem G.if_lt {x : Int32} {o : Int} {pcT : Nat} (B : Cx p s m meth c Z own nm bytes maxL rt n0 h0 ws) (hd : decode bytes pc = .ok (.ifCond .lt o, 3)) (ho : 0 ≤ (pc : Int) + o) (hT : ((pc : Int) + o).toNat = pcT) (hp : pc + 3 = pc') (k1 : x.toInt < 0 → G p l e R s m args below meth c n0 h0 ws Q cells slots h (mkF m pcT ls st)) (k2 : 0 ≤ x.toInt → G p l e R s m args below meth c n0 h0 ws Q cells slots h (mkF m pc' ls st)) : G p l e R s m args below meth c n0 h0 ws Q cells slots h (mkF m pc ls (.int x :: st)) := by
  subst hp
  by_cases h : x.toInt < 0
  · exact G.stepX (fun T locs k n t X _ q => XS.ifYes X.here B.1.1 rfl (pc0 := pc) (pc' := pcT) rfl (hb B.1.2.1 hd) rfl ((if0 _ _).trans (tlt (own_ylt (y := 0) h)).1) ho hT q) (k1 h)
  · replace h := Int.not_lt.mp h
    exact G.stepX (fun T locs k n t X _ q => XS.ifNo X.here B.1.1 rfl (hb B.1.2.1 hd) rfl ((if0 _ _).trans (flt (own_nlt (y := 0) h)).1) q) (k2 h)
theorem G.lcmp_lt {x y : Int64} {o : Int} {pc1 pcT : Nat} (B : Cx p s m meth c Z own nm bytes maxL rt n0 h0 ws) (hd0 : decode bytes pc = .ok (.lcmp, 1)) (hp0 : pc + 1 = pc1) (hd : decode bytes pc1 = .ok (.ifCond .lt o, 3)) (ho : 0 ≤ (pc1 : Int) + o) (hT : ((pc1 : Int) + o).toNat = pcT) (hp : pc1 + 3 = pc') (k1 : x.toInt < y.toInt → G p l e R s m args below meth c n0 h0 ws Q cells slots h (mkF m pcT ls st)) (k2 : y.toInt ≤ x.toInt → G p l e R s m args below meth c n0 h0 ws Q cells slots h (mkF m pc' ls st)) : G p l e R s m args below meth c n0 h0 ws Q cells slots h (mkF m pc ls (.long y :: .long x :: st)) :=
  G.lcmp B hd0 hp0 (G.if_lt B hd ho hT hp (fun q => k1 (by have := c_lcmp x y; omega)) (fun q => k2 (by have := c_lcmp x y; omega)))
theorem G.icmp_ge {x y : Int32} {o : Int} {pcT : Nat} (B : Cx p s m meth c Z own nm bytes maxL rt n0 h0 ws) (hd : decode bytes pc = .ok (.if_icmp .ge o, 3)) (ho : 0 ≤ (pc : Int) + o) (hT : ((pc : Int) + o).toNat = pcT) (hp : pc + 3 = pc') (k1 : y.toInt ≤ x.toInt → G p l e R s m args below meth c n0 h0 ws Q cells slots h (mkF m pcT ls st)) (k2 : x.toInt < y.toInt → G p l e R s m args below meth c n0 h0 ws Q cells slots h (mkF m pc' ls st)) : G p l e R s m args below meth c n0 h0 ws Q cells slots h (mkF m pc ls (.int y :: .int x :: st)) := by
  subst hp
  by_cases h : y.toInt ≤ x.toInt
  · exact G.stepX (fun T locs k n t X _ q => XS.icmpYes X.here B.1.1 rfl (pc0 := pc) (pc' := pcT) rfl (hb B.1.2.1 hd) rfl (flt (own_nlt h)).2.1 ho hT q) (k1 h)
  · replace h := Int.not_le.mp h
    exact G.stepX (fun T locs k n t X _ q => XS.icmpNo X.here B.1.1 rfl (hb B.1.2.1 hd) rfl (tlt (own_ylt h)).2.1 q) (k2 h)
theorem G.if_ge {x : Int32} {o : Int} {pcT : Nat} (B : Cx p s m meth c Z own nm bytes maxL rt n0 h0 ws) (hd : decode bytes pc = .ok (.ifCond .ge o, 3)) (ho : 0 ≤ (pc : Int) + o) (hT : ((pc : Int) + o).toNat = pcT) (hp : pc + 3 = pc') (k1 : 0 ≤ x.toInt → G p l e R s m args below meth c n0 h0 ws Q cells slots h (mkF m pcT ls st)) (k2 : x.toInt < 0 → G p l e R s m args below meth c n0 h0 ws Q cells slots h (mkF m pc' ls st)) : G p l e R s m args below meth c n0 h0 ws Q cells slots h (mkF m pc ls (.int x :: st)) := by
  subst hp
  by_cases h : 0 ≤ x.toInt
  · exact G.stepX (fun T locs k n t X _ q => XS.ifYes X.here B.1.1 rfl (pc0 := pc) (pc' := pcT) rfl (hb B.1.2.1 hd) rfl ((if0 _ _).trans (flt (own_nlt (y := 0) h)).2.1) ho hT q) (k1 h)
  · replace h := Int.not_le.mp h
    exact G.stepX (fun T locs k n t X _ q => XS.ifNo X.here B.1.1 rfl (hb B.1.2.1 hd) rfl ((if0 _ _).trans (tlt (own_ylt (y := 0) h)).2.1) q) (k2 h)
theorem G.lcmp_ge {x y : Int64} {o : Int} {pc1 pcT : Nat} (B : Cx p s m meth c Z own nm bytes maxL rt n0 h0 ws) (hd0 : decode bytes pc = .ok (.lcmp, 1)) (hp0 : pc + 1 = pc1) (hd : decode bytes pc1 = .ok (.ifCond .ge o, 3)) (ho : 0 ≤ (pc1 : Int) + o) (hT : ((pc1 : Int) + o).toNat = pcT) (hp : pc1 + 3 = pc') (k1 : y.toInt ≤ x.toInt → G p l e R s m args below meth c n0 h0 ws Q cells slots h (mkF m pcT ls st)) (k2 : x.toInt < y.toInt → G p l e R s m args below meth c n0 h0 ws Q cells slots h (mkF m pc' ls st)) : G p l e R s m args below meth c n0 h0 ws Q cells slots h (mkF m pc ls (.long y :: .long x :: st)) :=
  G.lcmp B hd0 hp0 (G.if_ge B hd ho hT hp (fun q => k1 (by have := c_lcmp x y; omega)) (fun q => k2 (by have := c_lcmp x y; omega)))
theorem G.icmp_gt {x y : Int32} {o : Int} {pcT : Nat} (B : Cx p s m meth c Z own nm bytes maxL rt n0 h0 ws) (hd : decode bytes pc = .ok (.if_icmp .gt o, 3)) (ho : 0 ≤ (pc : Int) + o) (hT : ((pc : Int) + o).toNat = pcT) (hp : pc + 3 = pc') (k1 : y.toInt < x.toInt → G p l e R s m args below meth c n0 h0 ws Q cells slots h (mkF m pcT ls st)) (k2 : x.toInt ≤ y.toInt → G p l e R s m args below meth c n0 h0 ws Q cells slots h (mkF m pc' ls st)) : G p l e R s m args below meth c n0 h0 ws Q cells slots h (mkF m pc ls (.int y :: .int x :: st)) := by
  subst hp
  by_cases h : y.toInt < x.toInt
  · exact G.stepX (fun T locs k n t X _ q => XS.icmpYes X.here B.1.1 rfl (pc0 := pc) (pc' := pcT) rfl (hb B.1.2.1 hd) rfl (tlt (own_ylt h)).2.2.1 ho hT q) (k1 h)
  · replace h := Int.not_lt.mp h
    exact G.stepX (fun T locs k n t X _ q => XS.icmpNo X.here B.1.1 rfl (hb B.1.2.1 hd) rfl (flt (own_nlt h)).2.2.1 q) (k2 h)
theorem G.if_gt {x : Int32} {o : Int} {pcT : Nat} (B : Cx p s m meth c Z own nm bytes maxL rt n0 h0 ws) (hd : decode bytes pc = .ok (.ifCond .gt o, 3)) (ho : 0 ≤ (pc : Int) + o) (hT : ((pc : Int) + o).toNat = pcT) (hp : pc + 3 = pc') (k1 : 0 < x.toInt → G p l e R s m args below meth c n0 h0 ws Q cells slots h (mkF m pcT ls st)) (k2 : x.toInt ≤ 0 → G p l e R s m args below meth c n0 h0 ws Q cells slots h (mkF m pc' ls st)) : G p l e R s m args below meth c n0 h0 ws Q cells slots h (mkF m pc ls (.int x :: st)) := by
  subst hp
  by_cases h : 0 < x.toInt
  · exact G.stepX (fun T locs k n t X _ q => XS.ifYes X.here B.1.1 rfl (pc0 := pc) (pc' := pcT) rfl (hb B.1.2.1 hd) rfl ((if0 _ _).trans (tlt (own_ylt (x := 0) h)).2.2.1) ho hT q) (k1 h)
  · replace h := Int.not_lt.mp h
    exact G.stepX (fun T locs k n t X _ q => XS.ifNo X.here B.1.1 rfl (hb B.1.2.1 hd) rfl ((if0 _ _).trans (flt (own_nlt (x := 0) h)).2.2.1) q) (k2 h)
theorem G.lcmp_gt {x y : Int64} {o : Int} {pc1 pcT : Nat} (B : Cx p s m meth c Z own nm bytes maxL rt n0 h0 ws) (hd0 : decode bytes pc = .ok (.lcmp, 1)) (hp0 : pc + 1 = pc1) (hd : decode bytes pc1 = .ok (.ifCond .gt o, 3)) (ho : 0 ≤ (pc1 : Int) + o) (hT : ((pc1 : Int) + o).toNat = pcT) (hp : pc1 + 3 = pc') (k1 : y.toInt < x.toInt → G p l e R s m args below meth c n0 h0 ws Q cells slots h (mkF m pcT ls st)) (k2 : x.toInt ≤ y.toInt → G p l e R s m args below meth c n0 h0 ws Q cells slots h (mkF m pc' ls st)) : G p l e R s m args below meth c n0 h0 ws Q cells slots h (mkF m pc ls (.long y :: .long x :: st)) :=
  G.lcmp B hd0 hp0 (G.if_gt B hd ho hT hp (fun q => k1 (by have := c_lcmp x y; omega)) (fun q => k2 (by have := c_lcmp x y; omega)))
theorem G.icmp_le {x y : Int32} {o : Int} {pcT : Nat} (B : Cx p s m meth c Z own nm bytes maxL rt n0 h0 ws) (hd : decode bytes pc = .ok (.if_icmp .le o, 3)) (ho : 0 ≤ (pc : Int) + o) (hT : ((pc : Int) + o).toNat = pcT) (hp : pc + 3 = pc') (k1 : x.toInt ≤ y.toInt → G p l e R s m args below meth c n0 h0 ws Q cells slots h (mkF m pcT ls st)) (k2 : y.toInt < x.toInt → G p l e R s m args below meth c n0 h0 ws Q cells slots h (mkF m pc' ls st)) : G p l e R s m args below meth c n0 h0 ws Q cells slots h (mkF m pc ls (.int y :: .int x :: st)) := by
  subst hp
  by_cases h : x.toInt ≤ y.toInt
  · exact G.stepX (fun T locs k n t X _ q => XS.icmpYes X.here B.1.1 rfl (pc0 := pc) (pc' := pcT) rfl (hb B.1.2.1 hd) rfl (flt (own_nlt h)).2.2.2 ho hT q) (k1 h)
  · replace h := Int.not_le.mp h
    exact G.stepX (fun T locs k n t X _ q => XS.icmpNo X.here B.1.1 rfl (hb B.1.2.1 hd) rfl (tlt (own_ylt h)).2.2.2 q) (k2 h)
theorem G.if_le {x : Int32} {o : Int} {pcT : Nat} (B : Cx p s m meth c Z own nm bytes maxL rt n0 h0 ws) (hd : decode bytes pc = .ok (.ifCond .le o, 3)) (ho : 0 ≤ (pc : Int) + o) (hT : ((pc : Int) + o).toNat = pcT) (hp : pc + 3 = pc') (k1 : x.toInt ≤ 0 → G p l e R s m args below meth c n0 h0 ws Q cells slots h (mkF m pcT ls st)) (k2 : 0 < x.toInt → G p l e R s m args below meth c n0 h0 ws Q cells slots h (mkF m pc' ls st)) : G p l e R s m args below meth c n0 h0 ws Q cells slots h (mkF m pc ls (.int x :: st)) := by
  subst hp
  by_cases h : x.toInt ≤ 0
  · exact G.stepX (fun T locs k n t X _ q => XS.ifYes X.here B.1.1 rfl (pc0 := pc) (pc' := pcT) rfl (hb B.1.2.1 hd) rfl ((if0 _ _).trans (flt (own_nlt (x := 0) h)).2.2.2) ho hT q) (k1 h)
  · replace h := Int.not_le.mp h
    exact G.stepX (fun T locs k n t X _ q => XS.ifNo X.here B.1.1 rfl (hb B.1.2.1 hd) rfl ((if0 _ _).trans (tlt (own_ylt (x := 0) h)).2.2.2) q) (k2 h)
theorem G.lcmp_le {x y : Int64} {o : Int} {pc1 pcT : Nat} (B : Cx p s m meth c Z own nm bytes maxL rt n0 h0 ws) (hd0 : decode bytes pc = .ok (.lcmp, 1)) (hp0 : pc + 1 = pc1) (hd : decode bytes pc1 = .ok (.ifCond .le o, 3)) (ho : 0 ≤ (pc1 : Int) + o) (hT : ((pc1 : Int) + o).toNat = pcT) (hp : pc1 + 3 = pc') (k1 : x.toInt ≤ y.toInt → G p l e R s m args below meth c n0 h0 ws Q cells slots h (mkF m pcT ls st)) (k2 : y.toInt < x.toInt → G p l e R s m args below meth c n0 h0 ws Q cells slots h (mkF m pc' ls st)) : G p l e R s m args below meth c n0 h0 ws Q cells slots h (mkF m pc ls (.long y :: .long x :: st)) :=
  G.lcmp B hd0 hp0 (G.if_le B hd ho hT hp (fun q => k1 (by have := c_lcmp x y; omega)) (fun q => k2 (by have := c_lcmp x y; omega)))
theorem G.ifnull_t {b : Addr} {o : Int} {pcT : Nat} (B : Cx p s m meth c Z own nm bytes maxL rt n0 h0 ws) (hd : decode bytes pc = .ok (.ifnull o, 3)) (ho : 0 ≤ (pc : Int) + o) (hT : ((pc : Int) + o).toNat = pcT) (kk : G p l e R s m args below meth c n0 h0 ws Q cells slots h (mkF m pcT ls st)) : G p l e R s m args below meth c n0 h0 ws Q cells slots h (mkF m pc ls (.null :: st)) :=
  G.stepX (fun T locs k n t X _ q => XS.ifnullYes X.here B.1.1 rfl (pc0 := pc) (pc' := pcT) rfl (hb B.1.2.1 hd) rfl ho hT q) kk
theorem G.ifnull_f {b : Addr} {o : Int} (B : Cx p s m meth c Z own nm bytes maxL rt n0 h0 ws) (hd : decode bytes pc = .ok (.ifnull o, 3)) (hp : pc + 3 = pc') (kk : G p l e R s m args below meth c n0 h0 ws Q cells slots h (mkF m pc' ls st)) : G p l e R s m args below meth c n0 h0 ws Q cells slots h (mkF m pc ls (.ref b :: st)) := by
  subst hp
  exact G.stepX (fun T locs k n t X _ q => XS.ifnullNo X.here B.1.1 rfl (hb B.1.2.1 hd) rfl q) kk
theorem G.ifnonnull_t {b : Addr} {o : Int} {pcT : Nat} (B : Cx p s m meth c Z own nm bytes maxL rt n0 h0 ws) (hd : decode bytes pc = .ok (.ifnonnull o, 3)) (ho : 0 ≤ (pc : Int) + o) (hT : ((pc : Int) + o).toNat = pcT) (kk : G p l e R s m args below meth c n0 h0 ws Q cells slots h (mkF m pcT ls st)) : G p l e R s m args below meth c n0 h0 ws Q cells slots h (mkF m pc ls (.ref b :: st)) :=
  G.stepX (fun T locs k n t X _ q => XS.ifnonnullYes X.here B.1.1 rfl (pc0 := pc) (pc' := pcT) rfl (hb B.1.2.1 hd) rfl ho hT q) kk
theorem G.ifnonnull_f {b : Addr} {o : Int} (B : Cx p s m meth c Z own nm bytes maxL rt n0 h0 ws) (hd : decode bytes pc = .ok (.ifnonnull o, 3)) (hp : pc + 3 = pc') (kk : G p l e R s m args below meth c n0 h0 ws Q cells slots h (mkF m pc' ls st)) : G p l e R s m args below meth c n0 h0 ws Q cells slots h (mkF m pc ls (.null :: st)) := by
  subst hp
  exact G.stepX (fun T locs k n t X _ q => XS.ifnonnullNo X.here B.1.1 rfl (hb B.1.2.1 hd) rfl q) kk
theorem G.ldc2 {index : Nat} {v : Int64} (B : Cx p s m meth c Z own nm bytes maxL rt n0 h0 ws) (w : (Jvm.Cond.constantLong own index v).before a0 Z = true) (hd : decode bytes pc = .ok (.ldc2_w index, 3)) (hp : pc + 3 = pc') (kk : G p l e R s m args below meth c n0 h0 ws Q cells slots h (mkF m pc' ls (.long v :: st))) : G p l e R s m args below meth c n0 h0 ws Q cells slots h (mkF m pc ls st) := by
  subst hp
  exact G.stepX (fun T locs k n t X _ q => X.ldc2Long B.1.1 B.1.2.2.2.1 (mvT B.1.2.2.2.2 w) (g := mkF m pc ls st) rfl (hb B.1.2.1 hd) t q) kk
theorem G.ldcI {index : Nat} {v : Int32} (B : Cx p s m meth c Z own nm bytes maxL rt n0 h0 ws) (w : (Jvm.Cond.constant own index v).before a0 Z = true) (hd : decode bytes pc = .ok (.ldc index, 2)) (hp : pc + 2 = pc') (kk : G p l e R s m args below meth c n0 h0 ws Q cells slots h (mkF m pc' ls (.int v :: st))) : G p l e R s m args below meth c n0 h0 ws Q cells slots h (mkF m pc ls st) := by
  subst hp
  exact G.stepX (fun T locs k n t X _ q => X.ldcInt B.1.1 B.1.2.2.2.1 (mvT B.1.2.2.2.2 w) (g := mkF m pc ls st) rfl (hb B.1.2.1 hd) t q) kk
theorem G.ldcW {index : Nat} {v : Int32} (B : Cx p s m meth c Z own nm bytes maxL rt n0 h0 ws) (w : (Jvm.Cond.constant own index v).before a0 Z = true) (hd : decode bytes pc = .ok (.ldc_w index, 3)) (hp : pc + 3 = pc') (kk : G p l e R s m args below meth c n0 h0 ws Q cells slots h (mkF m pc' ls (.int v :: st))) : G p l e R s m args below meth c n0 h0 ws Q cells slots h (mkF m pc ls st) := by
  subst hp
  exact G.stepX (fun T locs k n t X _ q => X.ldcwInt B.1.1 B.1.2.2.2.1 (mvT B.1.2.2.2.2 w) (g := mkF m pc ls st) rfl (hb B.1.2.1 hd) t q) kk
theorem G.retV {Q' : Heap → Prop} (B : Cx p s m meth c Z own nm bytes maxL none n0 h0 ws) (hd : decode bytes pc = .ok (.return_, 1)) (hc : cells ≤ R.cells) (hs : slots ≤ R.slots) (hQ : Q' h) : G p l e R s m args below meth c n0 h0 ws (RV Q') cells slots h (mkF m pc ls []) :=
  G.out (v := none) B (fun _ => rfl) hc hs ⟨rfl, hQ⟩ (fun T locs k n fs X hr => X.returnOut B.1.1 B.2.1 (hb B.1.2.1 hd) hr)
theorem G.retI {Q' : Int32 → Heap → Prop} {z : Int32} (B : Cx p s m meth c Z own nm bytes maxL (some .int) n0 h0 ws) (hd : decode bytes pc = .ok (.ireturn, 1)) (hc : cells ≤ R.cells) (hs : slots ≤ R.slots) (hQ : Q' z h) : G p l e R s m args below meth c n0 h0 ws (RI Q') cells slots h (mkF m pc ls (.int z :: st)) :=
  G.out (v := some (.int z)) B (fun q => nomatch q) hc hs ⟨z, rfl, hQ⟩ (fun T locs k n fs X hr => Jvm.RoadKit.retI X B.1.1 B.2.1 (hb B.1.2.1 hd) hr)
theorem G.retN {Q' : Int32 → Heap → Prop} {z : Int32} {t : FieldType} (B : Cx p s m meth c Z own nm bytes maxL (some t) n0 h0 ws) (ht : t = .boolean ∨ t = .byte ∨ t = .char ∨ t = .short) (hd : decode bytes pc = .ok (.ireturn, 1)) (hc : cells ≤ R.cells) (hs : slots ≤ R.slots) (hQ : Q' (nar t z) h) : G p l e R s m args below meth c n0 h0 ws (RI Q') cells slots h (mkF m pc ls (.int z :: st)) :=
  G.out (v := some (.int (nar t z))) B (fun q => nomatch q) hc hs ⟨_, rfl, hQ⟩ (fun T locs k n fs X hr => Jvm.RoadKit.retN X B.1.1 B.2.1 ht (hb B.1.2.1 hd) hr)
theorem G.retZ {Q' : Int32 → Heap → Prop} {z : Int32} (B : Cx p s m meth c Z own nm bytes maxL (some .boolean) n0 h0 ws) (hd : decode bytes pc = .ok (.ireturn, 1)) (hc : cells ≤ R.cells) (hs : slots ≤ R.slots) (hz : z = 0 ∨ z = 1) (hQ : Q' z h) : G p l e R s m args below meth c n0 h0 ws (RI Q') cells slots h (mkF m pc ls (.int z :: st)) :=
  G.retN B (Or.inl rfl) hd hc hs (by rcases hz with rfl | rfl <;> exact hQ)
theorem own_retJ {T : State} {locs : List Loc} {Ls : Array Slot} {w : Int64} {rest : List Value} (X : Stand p l e R s m args below meth c T locs cells slots) (hx : p.tables.exec = Jvm.exec) (hret : meth.sig.returnType = some .long) (hd : decode c.code pc = .ok (.lreturn, 1)) {fs : List Frame}
    (hr : ∀ (f : JFrame) (acts : List Action), f.method = m → f.locked = none → f.entered = [] → (doReturn e (T.setTop f) acts (some (.long w))).1 = T.setFrames fs) : Steps p.tables e below (T.setTop (mkF m pc Ls (.long w :: rest))) (T.setFrames fs) := by
  have hm' : T.vm.method? m = some meth := X.method'
  show Steps p.tables e below (T.setTop { method := m, pc := pc, locals := Ls, stack := _ :: rest, locked := none }) _
  jvm_step X.here [X.here.top, hx, hd, hm', hret, narrow]
  first | (intro acts; rw [hr _ acts rfl rfl rfl]) | rw [hr _ _ rfl rfl rfl]
  exact Steps.refl _
theorem G.retJ {Q' : Int64 → Heap → Prop} {z : Int64} (B : Cx p s m meth c Z own nm bytes maxL (some .long) n0 h0 ws) (hd : decode bytes pc = .ok (.lreturn, 1)) (hc : cells ≤ R.cells) (hs : slots ≤ R.slots) (hQ : Q' z h) : G p l e R s m args below meth c n0 h0 ws (RJ Q') cells slots h (mkF m pc ls (.long z :: st)) :=
  G.out (v := some (.long z)) B (fun q => nomatch q) hc hs ⟨z, rfl, hQ⟩ (fun T locs k n fs X hr => own_retJ X B.1.1 B.2.1 (hb B.1.2.1 hd) hr)
theorem own_retA {T : State} {locs : List Loc} {Ls : Array Slot} {w : Addr} {rest : List Value} {t : FieldType} (X : Stand p l e R s m args below meth c T locs cells slots) (hx : p.tables.exec = Jvm.exec) (hret : meth.sig.returnType = some t) (ht : t.isReference = true) (hd : decode c.code pc = .ok (.areturn, 1)) {fs : List Frame}
    (hr : ∀ (f : JFrame) (acts : List Action), f.method = m → f.locked = none → f.entered = [] → (doReturn e (T.setTop f) acts (some (.ref w))).1 = T.setFrames fs) : Steps p.tables e below (T.setTop (mkF m pc Ls (.ref w :: rest))) (T.setFrames fs) := by
  have hm' : T.vm.method? m = some meth := X.method'
  show Steps p.tables e below (T.setTop { method := m, pc := pc, locals := Ls, stack := _ :: rest, locked := none }) _
  jvm_step X.here [X.here.top, hx, hd, hm', hret, Value.isRef, ht]
  first | (intro acts; rw [hr _ acts rfl rfl rfl]) | rw [hr _ _ rfl rfl rfl]
  exact Steps.refl _
theorem G.retA {Q' : Addr → Heap → Prop} {z : Addr} {t : FieldType} (B : Cx p s m meth c Z own nm bytes maxL (some t) n0 h0 ws) (ht : t.isReference = true) (hd : decode bytes pc = .ok (.areturn, 1)) (hc : cells ≤ R.cells) (hs : slots ≤ R.slots) (hQ : Q' z h) : G p l e R s m args below meth c n0 h0 ws (RA Q') cells slots h (mkF m pc ls (.ref z :: st)) :=
  G.out (v := some (.ref z)) B (fun q => nomatch q) hc hs ⟨z, rfl, hQ⟩ (fun T locs k n fs X hr => own_retA X B.1.1 B.2.1 ht (hb B.1.2.1 hd) hr)
theorem G.getF {R0 O n d host : String} {index : Nat} {a : Addr} {v : Value} (B : Cx p s m meth c Z own nm bytes maxL rt n0 h0 ws) (w : (Jvm.Cond.fieldLink own index R0 n d).before a0 Z = true ∨ (Jvm.Cond.fieldLinkNest own index R0 n d host).before a0 Z = true) (via : Via Z R0 O n d) (Fd : Fld Z h a O n d v) (hd : decode bytes pc = .ok (.getfield index, 3)) (hp : pc + 3 = pc') (kk : G p l e R s m args below meth c n0 h0 ws Q cells slots h (mkF m pc' ls (v :: st))) : G p l e R s m args below meth c n0 h0 ws Q cells slots h (mkF m pc ls (.ref a :: st)) := by
  subst hp
  exact G.stepT (fun T locs k n X eT => Jvm.RoadKit.getF X B.1.1 B.1.2.2.2.2 B.1.2.2.2.1 w via eT Fd (g := (mkF m pc ls (.ref a :: st))) rfl rfl (hb B.1.2.1 hd)) kk
theorem G.putF {R0 O n d C : String} {index kq : Nat} {ty : FieldType} {a : Addr} {v v' old : Value} (B : Cx p s m meth c Z own nm bytes maxL rt n0 h0 ws) (w : (Jvm.Cond.fieldLink own index R0 n d).before a0 Z = true) (via : Via Z R0 O n d) (Fd : Fld Z h a O n d old) (E : Exa Z h a C) (L : (Jvm.Cond.lays C O n d).before a0 Z = true ∨ ((Jvm.Cond.laysFinal C O n d).before a0 Z = true ∧ own = O ∧ nm = "<init>")) (wi : (Jvm.Cond.instantiable C kq).before a0 Z = true)
    (hty : parseFieldDescriptor d = some ty) (hn : narrow ty v = v') (hf : fits ty v' = true) (ha : a ∈ ws ∨ h0.size ≤ a) (hd : decode bytes pc = .ok (.putfield index, 3)) (hp : pc + 3 = pc') (kk : ∀ h', Wr h h' a (Jvm.RoadKit.slotOf Z O n d) v' → G p l e R s m args below meth c n0 h0 ws Q cells slots h' (mkF m pc' ls st)) : G p l e R s m args below meth c n0 h0 ws Q cells slots h (mkF m pc ls (v :: .ref a :: st)) := by
  subst hp
  exact G.wr B ha (fun T locs k n X eT => Jvm.RoadKit.putFN X B.1.1 B.1.2.2.2.2 B.1.2.2.2.1 w via eT Fd E (L.imp id (fun q => ⟨q.1, q.2.1, B.2.2.2.1.trans q.2.2⟩)) wi hty hn hf (g := (mkF m pc ls (v :: .ref a :: st))) rfl rfl (hb B.1.2.1 hd)) kk
theorem G.newO {C : String} {index q : Nat} (B : Cx p s m meth c Z own nm bytes maxL rt n0 h0 ws) (w : (Jvm.Cond.classLink own index C).before a0 Z = true) (wi : (Jvm.Cond.instantiable C q).before a0 Z = true) (wz : (Jvm.Cond.initialized C).before a0 Z = true) (hd : decode bytes pc = .ok (.new index, 3)) (hp : pc + 3 = pc') (hc : cells + 1 ≤ R.cells) (hl : slots + q ≤ R.slots)
    (kk : ∀ h' a, a = h.size → h0.size ≤ a → Keep h h' [] → a < h'.size → Exa Z h' a C → (∀ {O n d : String} {ty : FieldType}, Laid Z a0 C O n d → parseFieldDescriptor d = some ty → Fld Z h' a O n d (defaultValue ty)) → G p l e R s m args below meth c n0 h0 ws Q (cells + 1) (slots + q) h' (mkF m pc' ls (.ref a :: st))) : G p l e R s m args below meth c n0 h0 ws Q cells slots h (mkF m pc ls st) := fun T locs k n X hk hn eT N K => by
  subst hp
  obtain ⟨T', h', X', e', E', A', D', -, stp⟩ := Jvm.RoadKit.newO X B.1.1 B.1.2.2.2.2 B.1.2.2.2.1 w wi wz eT (g := (mkF m pc ls st)) rfl (hb B.1.2.1 hd) (Nat.le_trans (Nat.add_le_add_right hk 1) hc) (Nat.le_trans (Nat.add_le_add_right hn q) hl)
  obtain ⟨U, v, L, hs, r⟩ := kk h' h.size rfl K.1 ((Keep.refl h []).ext E') A'.lt A' D' T' locs (k + 1) (n + q) X' (Nat.add_le_add_right hk 1) (Nat.add_le_add_right hn q) e' N (K.ext E')
  exact ⟨U, v, L, stp U hs, r⟩
theorem G.initO {index W : Nat} {a : Addr} (B : Cx p s m meth c Z own nm bytes maxL rt n0 h0 ws) (w1 : (Jvm.Cond.methodLink own index Lib.objectInit).before a0 Z = true) (w2 : (Jvm.Cond.instanceMethod Lib.objectInit).before a0 Z = true) (w3 : (Jvm.Cond.code Lib.objectInit ⟨#[0xb1]⟩ 1 none).before a0 Z = true) (hsz : ls.size = maxL) (hd : decode bytes pc = .ok (.invokespecial index, 3)) (hp : pc + 3 = pc') (hf : 1 ≤ R.frames) (hW : 2 * 0 + (st.map fun v => v.category).sum ≤ W) (hl : W + 12 ≤ R.locals) (kk : G p l e R s m args below meth c n0 h0 ws Q cells slots h (mkF m pc' ls st)) : G p l e R s m args below meth c n0 h0 ws Q cells slots h (mkF m pc ls (.ref a :: st)) := by
  subst hp
  exact G.stepT (fun T locs k n X eT => Jvm.RoadKit.initO X B.1.1 B.1.2.2.2.2 B.1.2.2.2.1 w1 w2 w3 eT (g := (mkF m pc ls (.ref a :: st))) rfl (hsz.trans B.1.2.2.1.symm) rfl (hb B.1.2.1 hd) hf (W := W) hW hl) kk
/-- an array of longs, of length n, its elements f -/
def ArJ (Z : State) (h : Heap) (a : Addr) (n : Nat) (f : Nat → Int64) : Prop := ∃ cl : Cell, Arr Z h a cl .long ∧ cl.slots.size = n ∧ n < 2147483648 ∧ ∀ i, i < n → cl.slots[i]? = some (.long (f i))
/-- an array of ints, bytes, booleans, chars or shorts -/
def ArI (Z : State) (h : Heap) (a : Addr) (ty : FieldType) (n : Nat) (f : Nat → Int32) : Prop := ∃ cl : Cell, Arr Z h a cl ty ∧ cl.slots.size = n ∧ n < 2147483648 ∧ ∀ i, i < n → cl.slots[i]? = some (.int (f i))
/-- f with v at the place j -/
def up {α : Type} (f : Nat → α) (j : Nat) (v : α) : Nat → α := fun i => if i = j then v else f i
theorem ArJ.lt {a : Addr} {n : Nat} {f : Nat → Int64} (A : ArJ Z h a n f) : a < h.size := by obtain ⟨cl, A, -⟩ := A; exact A.lt
theorem ArI.lt {a : Addr} {ty : FieldType} {n : Nat} {f : Nat → Int32} (A : ArI Z h a ty n f) : a < h.size := by obtain ⟨cl, A, -⟩ := A; exact A.lt
theorem ArJ.keep {a : Addr} {n : Nat} {f : Nat → Int64} {h' : Heap} {vs : List Addr} (A : ArJ Z h a n f) (K : Keep h h' vs) (q : a ∉ vs) : ArJ Z h' a n f := by obtain ⟨cl, A, r⟩ := A; exact ⟨cl, ⟨K.2.1 a cl A.1 q, A.2⟩, r⟩
theorem ArI.keep {a : Addr} {ty : FieldType} {n : Nat} {f : Nat → Int32} {h' : Heap} {vs : List Addr} (A : ArI Z h a ty n f) (K : Keep h h' vs) (q : a ∉ vs) : ArI Z h' a ty n f := by obtain ⟨cl, A, r⟩ := A; exact ⟨cl, ⟨K.2.1 a cl A.1 q, A.2⟩, r⟩
theorem own_idx {j : Int32} {i n : Nat} (hj : j.toInt = (i : Int)) (hi : i < n) : ¬ (j < 0 ∨ n ≤ j.toNatClampNeg) ∧ j.toNatClampNeg = i := by
  have h1 : j.toNatClampNeg = i := by show j.toInt.toNat = i; omega
  refine ⟨?_, h1⟩
  rintro (q | q)
  · rw [Int32.lt_iff_toInt_lt, Int32.toInt_zero] at q; omega
  · omega
theorem own_set {a : Addr} {cl : Cell} {ty : FieldType} {h' : Heap} {i n : Nat} {v : Value} {g : Nat → Value} (A : Arr Z h a cl ty) (hs : cl.slots.size = n) (hv : ∀ i, i < n → cl.slots[i]? = some (g i)) (W : Wr h h' a i v) : ∃ cl' : Cell, Arr Z h' a cl' ty ∧ cl'.slots.size = n ∧ ∀ k, k < n → cl'.slots[k]? = some (if k = i then v else g k) := by
  obtain ⟨cb', q1, q2, q3, q4, q5, q6, q7⟩ := wr_at W A.1
  obtain ⟨r1, r2, r3⟩ := q7 rfl
  subst r1
  refine ⟨_, A.same W, q4.trans hs, fun k hk => ?_⟩
  by_cases e : k = i
  · subst e; rw [if_pos rfl]; exact r2
  · rw [if_neg e, q6 k e]; exact hv k hk
theorem ArJ.set {a : Addr} {n : Nat} {f : Nat → Int64} {h' : Heap} {i : Nat} {v : Int64} (A : ArJ Z h a n f) (W : Wr h h' a i (.long v)) : ArJ Z h' a n (up f i v) := by
  obtain ⟨cl, A, hs, hn, hv⟩ := A
  obtain ⟨cl', A', hs', hv'⟩ := own_set (g := fun i => .long (f i)) A hs hv W
  refine ⟨cl', A', hs', hn, fun k hk => ?_⟩
  rw [hv' k hk]; unfold up; split <;> rfl
theorem ArI.set {a : Addr} {ty : FieldType} {n : Nat} {f : Nat → Int32} {h' : Heap} {i : Nat} {v : Int32} (A : ArI Z h a ty n f) (W : Wr h h' a i (.int v)) : ArI Z h' a ty n (up f i v) := by
  obtain ⟨cl, A, hs, hn, hv⟩ := A
  obtain ⟨cl', A', hs', hv'⟩ := own_set (g := fun i => .int (f i)) A hs hv W
  refine ⟨cl', A', hs', hn, fun k hk => ?_⟩
  rw [hv' k hk]; unfold up; split <;> rfl
theorem ArJ.congr {a : Addr} {n : Nat} {f g : Nat → Int64} (A : ArJ Z h a n f) (q : ∀ i, i < n → f i = g i) : ArJ Z h a n g := by
  obtain ⟨cl, A, hs, hn, hv⟩ := A
  exact ⟨cl, A, hs, hn, fun i hi => by rw [← q i hi]; exact hv i hi⟩
theorem ArI.congr {a : Addr} {ty : FieldType} {n : Nat} {f g : Nat → Int32} (A : ArI Z h a ty n f) (q : ∀ i, i < n → f i = g i) : ArI Z h a ty n g := by
  obtain ⟨cl, A, hs, hn, hv⟩ := A
  exact ⟨cl, A, hs, hn, fun i hi => by rw [← q i hi]; exact hv i hi⟩
theorem G.stJ {a : Addr} {j : Int32} {i n : Nat} {f : Nat → Int64} {x : Int64} (B : Cx p s m meth c Z own nm bytes maxL rt n0 h0 ws) (A : ArJ Z h a n f) (hj : j.toInt = (i : Int)) (hi : i < n) (ha : a ∈ ws ∨ h0.size ≤ a) (hd : decode bytes pc = .ok (.lastore, 1)) (hp : pc + 1 = pc') (kk : ∀ h', Keep h h' [a] → ArJ Z h' a n (up f i x) → G p l e R s m args below meth c n0 h0 ws Q cells slots h' (mkF m pc' ls st)) : G p l e R s m args below meth c n0 h0 ws Q cells slots h (mkF m pc ls (.long x :: .int j :: .ref a :: st)) := by
  subst hp
  have A0 := A
  obtain ⟨cl, A, hs, hn, hv⟩ := A
  obtain ⟨hin, hjn⟩ := own_idx hj (hs.symm ▸ hi : i < cl.slots.size)
  exact G.wr B ha (fun T locs k n X eT => Jvm.RoadKit.stJ X B.1.1 B.1.2.2.2.2 eT A (j := j) hin (g := (mkF m pc ls (.long x :: .int j :: .ref a :: st))) rfl rfl (hb B.1.2.1 hd)) (fun h' W => kk h' (Keep.of_wr W) (A0.set (hjn ▸ W)))
theorem G.stI {a : Addr} {j : Int32} {i n : Nat} {f : Nat → Int32} {x : Int32} (B : Cx p s m meth c Z own nm bytes maxL rt n0 h0 ws) (A : ArI Z h a .int n f) (hj : j.toInt = (i : Int)) (hi : i < n) (ha : a ∈ ws ∨ h0.size ≤ a) (hd : decode bytes pc = .ok (.iastore, 1)) (hp : pc + 1 = pc') (kk : ∀ h', Keep h h' [a] → ArI Z h' a .int n (up f i x) → G p l e R s m args below meth c n0 h0 ws Q cells slots h' (mkF m pc' ls st)) : G p l e R s m args below meth c n0 h0 ws Q cells slots h (mkF m pc ls (.int x :: .int j :: .ref a :: st)) := by
  subst hp
  have A0 := A
  obtain ⟨cl, A, hs, hn, hv⟩ := A
  obtain ⟨hin, hjn⟩ := own_idx hj (hs.symm ▸ hi : i < cl.slots.size)
  exact G.wr B ha (fun T locs k n X eT => Jvm.RoadKit.stI X B.1.1 B.1.2.2.2.2 eT A (j := j) hin (g := (mkF m pc ls (.int x :: .int j :: .ref a :: st))) rfl rfl (hb B.1.2.1 hd)) (fun h' W => kk h' (Keep.of_wr W) (A0.set (hjn ▸ W)))
theorem G.stB {a : Addr} {j : Int32} {i n : Nat} {f : Nat → Int32} {x z : Int32} (B : Cx p s m meth c Z own nm bytes maxL rt n0 h0 ws) (A : ArI Z h a .byte n f) (hj : j.toInt = (i : Int)) (hi : i < n) (ha : a ∈ ws ∨ h0.size ≤ a) (hz : nar .byte x = z) (hd : decode bytes pc = .ok (.bastore, 1)) (hp : pc + 1 = pc') (kk : ∀ h', Keep h h' [a] → ArI Z h' a .byte n (up f i z) → G p l e R s m args below meth c n0 h0 ws Q cells slots h' (mkF m pc' ls st)) : G p l e R s m args below meth c n0 h0 ws Q cells slots h (mkF m pc ls (.int x :: .int j :: .ref a :: st)) := by
  subst hp hz
  have A0 := A
  obtain ⟨cl, A, hs, hn, hv⟩ := A
  obtain ⟨hin, hjn⟩ := own_idx hj (hs.symm ▸ hi : i < cl.slots.size)
  exact G.wr B ha (fun T locs k n X eT => Jvm.RoadKit.stB X B.1.1 B.1.2.2.2.2 eT A (j := j) hin (g := (mkF m pc ls (.int x :: .int j :: .ref a :: st))) rfl rfl (hb B.1.2.1 hd)) (fun h' W => kk h' (Keep.of_wr W) (A0.set (hjn ▸ W)))
theorem G.stZ {a : Addr} {j : Int32} {i n : Nat} {f : Nat → Int32} {x z : Int32} (B : Cx p s m meth c Z own nm bytes maxL rt n0 h0 ws) (A : ArI Z h a .boolean n f) (hj : j.toInt = (i : Int)) (hi : i < n) (ha : a ∈ ws ∨ h0.size ≤ a) (hz : nar .boolean x = z) (hd : decode bytes pc = .ok (.bastore, 1)) (hp : pc + 1 = pc') (kk : ∀ h', Keep h h' [a] → ArI Z h' a .boolean n (up f i z) → G p l e R s m args below meth c n0 h0 ws Q cells slots h' (mkF m pc' ls st)) : G p l e R s m args below meth c n0 h0 ws Q cells slots h (mkF m pc ls (.int x :: .int j :: .ref a :: st)) := by
  subst hp hz
  have A0 := A
  obtain ⟨cl, A, hs, hn, hv⟩ := A
  obtain ⟨hin, hjn⟩ := own_idx hj (hs.symm ▸ hi : i < cl.slots.size)
  exact G.wr B ha (fun T locs k n X eT => Jvm.RoadKit.stZ X B.1.1 B.1.2.2.2.2 eT A (j := j) hin (g := (mkF m pc ls (.int x :: .int j :: .ref a :: st))) rfl rfl (hb B.1.2.1 hd)) (fun h' W => kk h' (Keep.of_wr W) (A0.set (hjn ▸ W)))
theorem G.stC {a : Addr} {j : Int32} {i n : Nat} {f : Nat → Int32} {x z : Int32} (B : Cx p s m meth c Z own nm bytes maxL rt n0 h0 ws) (A : ArI Z h a .char n f) (hj : j.toInt = (i : Int)) (hi : i < n) (ha : a ∈ ws ∨ h0.size ≤ a) (hz : nar .char x = z) (hd : decode bytes pc = .ok (.castore, 1)) (hp : pc + 1 = pc') (kk : ∀ h', Keep h h' [a] → ArI Z h' a .char n (up f i z) → G p l e R s m args below meth c n0 h0 ws Q cells slots h' (mkF m pc' ls st)) : G p l e R s m args below meth c n0 h0 ws Q cells slots h (mkF m pc ls (.int x :: .int j :: .ref a :: st)) := by
  subst hp hz
  have A0 := A
  obtain ⟨cl, A, hs, hn, hv⟩ := A
  obtain ⟨hin, hjn⟩ := own_idx hj (hs.symm ▸ hi : i < cl.slots.size)
  exact G.wr B ha (fun T locs k n X eT => Jvm.RoadKit.stC X B.1.1 B.1.2.2.2.2 eT A (j := j) hin (g := (mkF m pc ls (.int x :: .int j :: .ref a :: st))) rfl rfl (hb B.1.2.1 hd)) (fun h' W => kk h' (Keep.of_wr W) (A0.set (hjn ▸ W)))
theorem G.ldJ {a : Addr} {j : Int32} {i n : Nat} {f : Nat → Int64} {x : Int64} (B : Cx p s m meth c Z own nm bytes maxL rt n0 h0 ws) (A : ArJ Z h a n f) (hj : j.toInt = (i : Int)) (hi : i < n) (hv : f i = x) (hd : decode bytes pc = .ok (.laload, 1)) (hp : pc + 1 = pc') (kk : G p l e R s m args below meth c n0 h0 ws Q cells slots h (mkF m pc' ls (.long x :: st))) : G p l e R s m args below meth c n0 h0 ws Q cells slots h (mkF m pc ls (.int j :: .ref a :: st)) := by
  subst hp hv
  obtain ⟨cl, A, hs, hn, hv⟩ := A
  obtain ⟨hin, hjn⟩ := own_idx hj (hs.symm ▸ hi : i < cl.slots.size)
  exact G.stepX (fun T locs k n t X eT q => X.laload B.1.1 (j := j) (by rw [eT]; exact A.1) (State.isArrayOf_alike B.1.2.2.2.2.alike A.2.1) A.2.2 hin (by rw [hjn]; exact hv i hi) (g := (mkF m pc ls (.int j :: .ref a :: st))) rfl rfl (hb B.1.2.1 hd) _ q) kk
theorem G.ldI {a : Addr} {j : Int32} {i n : Nat} {f : Nat → Int32} {x : Int32} (B : Cx p s m meth c Z own nm bytes maxL rt n0 h0 ws) (A : ArI Z h a .int n f) (hj : j.toInt = (i : Int)) (hi : i < n) (hv : f i = x) (hd : decode bytes pc = .ok (.iaload, 1)) (hp : pc + 1 = pc') (kk : G p l e R s m args below meth c n0 h0 ws Q cells slots h (mkF m pc' ls (.int x :: st))) : G p l e R s m args below meth c n0 h0 ws Q cells slots h (mkF m pc ls (.int j :: .ref a :: st)) := by
  subst hp hv
  obtain ⟨cl, A, hs, hn, hv⟩ := A
  obtain ⟨hin, hjn⟩ := own_idx hj (hs.symm ▸ hi : i < cl.slots.size)
  exact G.stepX (fun T locs k n t X eT q => X.iaload B.1.1 (j := j) (by rw [eT]; exact A.1) (State.isArrayOf_alike B.1.2.2.2.2.alike A.2.1) A.2.2 hin (by rw [hjn]; exact hv i hi) (g := (mkF m pc ls (.int j :: .ref a :: st))) rfl rfl (hb B.1.2.1 hd) _ q) kk
theorem G.ldC {a : Addr} {j : Int32} {i n : Nat} {f : Nat → Int32} {x : Int32} (B : Cx p s m meth c Z own nm bytes maxL rt n0 h0 ws) (A : ArI Z h a .char n f) (hj : j.toInt = (i : Int)) (hi : i < n) (hv : f i = x) (hd : decode bytes pc = .ok (.caload, 1)) (hp : pc + 1 = pc') (kk : G p l e R s m args below meth c n0 h0 ws Q cells slots h (mkF m pc' ls (.int x :: st))) : G p l e R s m args below meth c n0 h0 ws Q cells slots h (mkF m pc ls (.int j :: .ref a :: st)) := by
  subst hp hv
  obtain ⟨cl, A, hs, hn, hv⟩ := A
  obtain ⟨hin, hjn⟩ := own_idx hj (hs.symm ▸ hi : i < cl.slots.size)
  exact G.stepX (fun T locs k n t X eT q => X.caload B.1.1 (j := j) (by rw [eT]; exact A.1) (State.isArrayOf_alike B.1.2.2.2.2.alike A.2.1) A.2.2 hin (by rw [hjn]; exact hv i hi) (g := (mkF m pc ls (.int j :: .ref a :: st))) rfl rfl (hb B.1.2.1 hd) _ q) kk
theorem G.ldB {a : Addr} {j : Int32} {i n : Nat} {f : Nat → Int32} {x : Int32} (B : Cx p s m meth c Z own nm bytes maxL rt n0 h0 ws) (A : ArI Z h a .byte n f) (hj : j.toInt = (i : Int)) (hi : i < n) (hv : f i = x) (hd : decode bytes pc = .ok (.baload, 1)) (hp : pc + 1 = pc') (kk : G p l e R s m args below meth c n0 h0 ws Q cells slots h (mkF m pc' ls (.int x :: st))) : G p l e R s m args below meth c n0 h0 ws Q cells slots h (mkF m pc ls (.int j :: .ref a :: st)) := by
  subst hp hv
  obtain ⟨cl, A, hs, hn, hv⟩ := A
  obtain ⟨hin, hjn⟩ := own_idx hj (hs.symm ▸ hi : i < cl.slots.size)
  exact G.stepX (fun T locs k n t X eT q => X.baloadBytes B.1.1 (j := j) (by rw [eT]; exact A.1) (State.isArrayOf_alike B.1.2.2.2.2.alike A.2.1) A.2.2 hin (by rw [hjn]; exact hv i hi) (g := (mkF m pc ls (.int j :: .ref a :: st))) rfl rfl (hb B.1.2.1 hd) _ q) kk
theorem G.ldZ {a : Addr} {j : Int32} {i n : Nat} {f : Nat → Int32} {x : Int32} (B : Cx p s m meth c Z own nm bytes maxL rt n0 h0 ws) (A : ArI Z h a .boolean n f) (hj : j.toInt = (i : Int)) (hi : i < n) (hv : f i = x) (hd : decode bytes pc = .ok (.baload, 1)) (hp : pc + 1 = pc') (kk : G p l e R s m args below meth c n0 h0 ws Q cells slots h (mkF m pc' ls (.int x :: st))) : G p l e R s m args below meth c n0 h0 ws Q cells slots h (mkF m pc ls (.int j :: .ref a :: st)) := by
  subst hp hv
  obtain ⟨cl, A, hs, hn, hv⟩ := A
  obtain ⟨hin, hjn⟩ := own_idx hj (hs.symm ▸ hi : i < cl.slots.size)
  exact G.stepX (fun T locs k n t X eT q => X.baloadBooleans B.1.1 (j := j) (by rw [eT]; exact A.1) (State.isArrayOf_alike B.1.2.2.2.2.alike A.2.1) A.2.2 hin (by rw [hjn]; exact hv i hi) (g := (mkF m pc ls (.int j :: .ref a :: st))) rfl rfl (hb B.1.2.1 hd) _ q) kk
theorem G.lenJ {a : Addr} {n : Nat} {z : Int32} {f : Nat → Int64} (B : Cx p s m meth c Z own nm bytes maxL rt n0 h0 ws) (A : ArJ Z h a n f) (hz : Int32.ofNat n = z) (hd : decode bytes pc = .ok (.arraylength, 1)) (hp : pc + 1 = pc') (kk : G p l e R s m args below meth c n0 h0 ws Q cells slots h (mkF m pc' ls (.int z :: st))) : G p l e R s m args below meth c n0 h0 ws Q cells slots h (mkF m pc ls (.ref a :: st)) := by
  subst hp hz
  obtain ⟨cl, A, hs, hn, hv⟩ := A
  subst hs
  exact G.stepX (fun T locs k n t X eT q => X.arraylength B.1.1 (by rw [eT]; exact A.1) (State.isArrayOf_alike B.1.2.2.2.2.alike A.2.1) (g := (mkF m pc ls (.ref a :: st))) rfl rfl (hb B.1.2.1 hd) _ q) kk
theorem G.lenI {a : Addr} {n : Nat} {z : Int32} {f : Nat → Int32} {ty : FieldType} (B : Cx p s m meth c Z own nm bytes maxL rt n0 h0 ws) (A : ArI Z h a ty n f) (hz : Int32.ofNat n = z) (hd : decode bytes pc = .ok (.arraylength, 1)) (hp : pc + 1 = pc') (kk : G p l e R s m args below meth c n0 h0 ws Q cells slots h (mkF m pc' ls (.int z :: st))) : G p l e R s m args below meth c n0 h0 ws Q cells slots h (mkF m pc ls (.ref a :: st)) := by
  subst hp hz
  obtain ⟨cl, A, hs, hn, hv⟩ := A
  subst hs
  exact G.stepX (fun T locs k n t X eT q => X.arraylength B.1.1 (by rw [eT]; exact A.1) (State.isArrayOf_alike B.1.2.2.2.2.alike A.2.1) (g := (mkF m pc ls (.ref a :: st))) rfl rfl (hb B.1.2.1 hd) _ q) kk
theorem own_newJ {a : Addr} {cA : ClassId} {z : Int32} {n : Nat} (A : Arr Z h a (newA cA .long z) .long) (hz : z.toInt = (n : Int)) : ArJ Z h a n (fun _ => 0) := by
  have hr := rng32 z
  have h1 : z.toNatClampNeg = n := by show z.toInt.toNat = n; omega
  exact ⟨_, A, (sz_new _ _ _).trans h1, by omega, fun i hi => by simp [newA, h1, hi, defaultValue]⟩
theorem own_newI {a : Addr} {cA : ClassId} {z : Int32} {n : Nat} {ty : FieldType} (hd : defaultValue ty = .int 0) (A : Arr Z h a (newA cA ty z) ty) (hz : z.toInt = (n : Int)) : ArI Z h a ty n (fun _ => 0) := by
  have hr := rng32 z
  have h1 : z.toNatClampNeg = n := by show z.toInt.toNat = n; omega
  exact ⟨_, A, (sz_new _ _ _).trans h1, by omega, fun i hi => by simp [newA, h1, hi, hd]⟩
theorem G.newJ {z : Int32} {n cap : Nat} (B : Cx p s m meth c Z own nm bytes maxL rt n0 h0 ws) (w : (Jvm.Cond.arrayClass .long).before a0 Z = true) (hz : z.toInt = (n : Int)) (hcap : n ≤ cap) (hb8 : cap * 8 ≤ 536870912) (hd : decode bytes pc = .ok (.newarray .long, 2)) (hp : pc + 2 = pc') (hc : cells + 1 ≤ R.cells) (hl : slots + cap ≤ R.slots)
    (kk : ∀ h' a, a = h.size → h0.size ≤ a → Keep h h' [] → ArJ Z h' a n (fun _ => 0) → G p l e R s m args below meth c n0 h0 ws Q (cells + 1) (slots + cap) h' (mkF m pc' ls (.ref a :: st))) : G p l e R s m args below meth c n0 h0 ws Q cells slots h (mkF m pc ls (.int z :: st)) := fun T locs k n' X hk hn eT N K => by
  subst hp
  have hr := rng32 z
  have h1 : z.toNatClampNeg = n := by show z.toInt.toNat = n; omega
  obtain ⟨T', h', cA, X', e', E', A', stp⟩ := Jvm.RoadKit.newP X B.1.1 B.1.2.2.2.2 (aty := .long) w eT (g := (mkF m pc ls (.int z :: st))) rfl (hb B.1.2.1 hd) rfl (fun q => by rw [Int32.lt_iff_toInt_lt, Int32.toInt_zero] at q; omega) (cap := cap) (by omega) hb8 (Nat.le_trans (Nat.add_le_add_right hk 1) hc) (Nat.le_trans (Nat.add_le_add_right hn cap) hl)
  obtain ⟨U, v, L, hs, r⟩ := kk h' h.size rfl K.1 ((Keep.refl h []).ext E') (own_newJ A' hz) T' locs (k + 1) (n' + cap) X' (Nat.add_le_add_right hk 1) (Nat.add_le_add_right hn cap) e' N (K.ext E')
  exact ⟨U, v, L, stp U hs, r⟩
theorem G.newI {z : Int32} {n cap : Nat} (B : Cx p s m meth c Z own nm bytes maxL rt n0 h0 ws) (w : (Jvm.Cond.arrayClass .int).before a0 Z = true) (hz : z.toInt = (n : Int)) (hcap : n ≤ cap) (hb8 : cap * 8 ≤ 536870912) (hd : decode bytes pc = .ok (.newarray .int, 2)) (hp : pc + 2 = pc') (hc : cells + 1 ≤ R.cells) (hl : slots + cap ≤ R.slots)
    (kk : ∀ h' a, a = h.size → h0.size ≤ a → Keep h h' [] → ArI Z h' a .int n (fun _ => 0) → G p l e R s m args below meth c n0 h0 ws Q (cells + 1) (slots + cap) h' (mkF m pc' ls (.ref a :: st))) : G p l e R s m args below meth c n0 h0 ws Q cells slots h (mkF m pc ls (.int z :: st)) := fun T locs k n' X hk hn eT N K => by
  subst hp
  have hr := rng32 z
  have h1 : z.toNatClampNeg = n := by show z.toInt.toNat = n; omega
  obtain ⟨T', h', cA, X', e', E', A', stp⟩ := Jvm.RoadKit.newP X B.1.1 B.1.2.2.2.2 (aty := .int) w eT (g := (mkF m pc ls (.int z :: st))) rfl (hb B.1.2.1 hd) rfl (fun q => by rw [Int32.lt_iff_toInt_lt, Int32.toInt_zero] at q; omega) (cap := cap) (by omega) hb8 (Nat.le_trans (Nat.add_le_add_right hk 1) hc) (Nat.le_trans (Nat.add_le_add_right hn cap) hl)
  obtain ⟨U, v, L, hs, r⟩ := kk h' h.size rfl K.1 ((Keep.refl h []).ext E') (own_newI rfl A' hz) T' locs (k + 1) (n' + cap) X' (Nat.add_le_add_right hk 1) (Nat.add_le_add_right hn cap) e' N (K.ext E')
  exact ⟨U, v, L, stp U hs, r⟩
theorem G.newB {z : Int32} {n cap : Nat} (B : Cx p s m meth c Z own nm bytes maxL rt n0 h0 ws) (w : (Jvm.Cond.arrayClass .byte).before a0 Z = true) (hz : z.toInt = (n : Int)) (hcap : n ≤ cap) (hb8 : cap * 8 ≤ 536870912) (hd : decode bytes pc = .ok (.newarray .byte, 2)) (hp : pc + 2 = pc') (hc : cells + 1 ≤ R.cells) (hl : slots + cap ≤ R.slots)
    (kk : ∀ h' a, a = h.size → h0.size ≤ a → Keep h h' [] → ArI Z h' a .byte n (fun _ => 0) → G p l e R s m args below meth c n0 h0 ws Q (cells + 1) (slots + cap) h' (mkF m pc' ls (.ref a :: st))) : G p l e R s m args below meth c n0 h0 ws Q cells slots h (mkF m pc ls (.int z :: st)) := fun T locs k n' X hk hn eT N K => by
  subst hp
  have hr := rng32 z
  have h1 : z.toNatClampNeg = n := by show z.toInt.toNat = n; omega
  obtain ⟨T', h', cA, X', e', E', A', stp⟩ := Jvm.RoadKit.newP X B.1.1 B.1.2.2.2.2 (aty := .byte) w eT (g := (mkF m pc ls (.int z :: st))) rfl (hb B.1.2.1 hd) rfl (fun q => by rw [Int32.lt_iff_toInt_lt, Int32.toInt_zero] at q; omega) (cap := cap) (by omega) hb8 (Nat.le_trans (Nat.add_le_add_right hk 1) hc) (Nat.le_trans (Nat.add_le_add_right hn cap) hl)
  obtain ⟨U, v, L, hs, r⟩ := kk h' h.size rfl K.1 ((Keep.refl h []).ext E') (own_newI rfl A' hz) T' locs (k + 1) (n' + cap) X' (Nat.add_le_add_right hk 1) (Nat.add_le_add_right hn cap) e' N (K.ext E')
  exact ⟨U, v, L, stp U hs, r⟩
theorem G.newZ {z : Int32} {n cap : Nat} (B : Cx p s m meth c Z own nm bytes maxL rt n0 h0 ws) (w : (Jvm.Cond.arrayClass .boolean).before a0 Z = true) (hz : z.toInt = (n : Int)) (hcap : n ≤ cap) (hb8 : cap * 8 ≤ 536870912) (hd : decode bytes pc = .ok (.newarray .boolean, 2)) (hp : pc + 2 = pc') (hc : cells + 1 ≤ R.cells) (hl : slots + cap ≤ R.slots)
    (kk : ∀ h' a, a = h.size → h0.size ≤ a → Keep h h' [] → ArI Z h' a .boolean n (fun _ => 0) → G p l e R s m args below meth c n0 h0 ws Q (cells + 1) (slots + cap) h' (mkF m pc' ls (.ref a :: st))) : G p l e R s m args below meth c n0 h0 ws Q cells slots h (mkF m pc ls (.int z :: st)) := fun T locs k n' X hk hn eT N K => by
  subst hp
  have hr := rng32 z
  have h1 : z.toNatClampNeg = n := by show z.toInt.toNat = n; omega
  obtain ⟨T', h', cA, X', e', E', A', stp⟩ := Jvm.RoadKit.newP X B.1.1 B.1.2.2.2.2 (aty := .boolean) w eT (g := (mkF m pc ls (.int z :: st))) rfl (hb B.1.2.1 hd) rfl (fun q => by rw [Int32.lt_iff_toInt_lt, Int32.toInt_zero] at q; omega) (cap := cap) (by omega) hb8 (Nat.le_trans (Nat.add_le_add_right hk 1) hc) (Nat.le_trans (Nat.add_le_add_right hn cap) hl)
  obtain ⟨U, v, L, hs, r⟩ := kk h' h.size rfl K.1 ((Keep.refl h []).ext E') (own_newI rfl A' hz) T' locs (k + 1) (n' + cap) X' (Nat.add_le_add_right hk 1) (Nat.add_le_add_right hn cap) e' N (K.ext E')
  exact ⟨U, v, L, stp U hs, r⟩
theorem G.newC {z : Int32} {n cap : Nat} (B : Cx p s m meth c Z own nm bytes maxL rt n0 h0 ws) (w : (Jvm.Cond.arrayClass .char).before a0 Z = true) (hz : z.toInt = (n : Int)) (hcap : n ≤ cap) (hb8 : cap * 8 ≤ 536870912) (hd : decode bytes pc = .ok (.newarray .char, 2)) (hp : pc + 2 = pc') (hc : cells + 1 ≤ R.cells) (hl : slots + cap ≤ R.slots)
    (kk : ∀ h' a, a = h.size → h0.size ≤ a → Keep h h' [] → ArI Z h' a .char n (fun _ => 0) → G p l e R s m args below meth c n0 h0 ws Q (cells + 1) (slots + cap) h' (mkF m pc' ls (.ref a :: st))) : G p l e R s m args below meth c n0 h0 ws Q cells slots h (mkF m pc ls (.int z :: st)) := fun T locs k n' X hk hn eT N K => by
  subst hp
  have hr := rng32 z
  have h1 : z.toNatClampNeg = n := by show z.toInt.toNat = n; omega
  obtain ⟨T', h', cA, X', e', E', A', stp⟩ := Jvm.RoadKit.newP X B.1.1 B.1.2.2.2.2 (aty := .char) w eT (g := (mkF m pc ls (.int z :: st))) rfl (hb B.1.2.1 hd) rfl (fun q => by rw [Int32.lt_iff_toInt_lt, Int32.toInt_zero] at q; omega) (cap := cap) (by omega) hb8 (Nat.le_trans (Nat.add_le_add_right hk 1) hc) (Nat.le_trans (Nat.add_le_add_right hn cap) hl)
  obtain ⟨U, v, L, hs, r⟩ := kk h' h.size rfl K.1 ((Keep.refl h []).ext E') (own_newI rfl A' hz) T' locs (k + 1) (n' + cap) X' (Nat.add_le_add_right hk 1) (Nat.add_le_add_right hn cap) e' N (K.ext E')
  exact ⟨U, v, L, stp U hs, r⟩
theorem own_back {y : MethodName} {bytes' : ByteArray} {maxL' : Nat} {rt' : Option FieldType} {rm : Room} {as' : Array Value} {ws' : List Addr} {Q' : Option Value → Heap → Prop} {len W : Nat} (B : Cx p s m meth c Z own nm bytes maxL rt n0 h0 ws) (M : Mt l Z y bytes' maxL' rt' [] rm n0 as' h ws' Q') (wc : (Jvm.Cond.code y bytes' maxL' rt').before a0 Z = true) (wz : (Jvm.Cond.initialized y.cls).before a0 Z = true) (hf : rm.frames + 1 ≤ R.frames) (hl : W + (maxL' + 11) + rm.locals ≤ R.locals) :
    Back l R p e below s args y len W (fun A a => a = as' ∧ A.U.heap = h ∧ A.cells + rm.cells ≤ R.cells ∧ A.slots + rm.slots ≤ R.slots) (fun A _ v B => ∃ L, (Fr n0 L ∧ Keep h B.U.heap ws' ∧ Q' v B.U.heap) ∧ B.locs = A.locs ++ L ∧ B.cells = A.cells + rm.cells ∧ B.slots = A.slots + rm.slots) :=
  backOf (Q := fun v hh L => Fr n0 L ∧ Keep h hh ws' ∧ Q' v hh) M B.1.2.2.2.2 wc wz hf hl
theorem G.callS {y : MethodName} {bytes' : ByteArray} {maxL' : Nat} {rt' : Option FieldType} {rm : Room} {ws' : List Addr} {Q' : Option Value → Heap → Prop} {index W : Nat} {argsL rest : List Value} (B : Cx p s m meth c Z own nm bytes maxL rt n0 h0 ws) (w1 : (Jvm.Cond.methodLink own index y).before a0 Z = true) (w2 : (Jvm.Cond.static y).before a0 Z = true) (M : Mt l Z y bytes' maxL' rt' [] rm n0 argsL.toArray h ws' Q') (hws : ∀ x ∈ ws', x ∈ ws ∨ h0.size ≤ x) (wc : (Jvm.Cond.code y bytes' maxL' rt').before a0 Z = true) (wz : (Jvm.Cond.initialized y.cls).before a0 Z = true) (hy : y.cls ≠ "java/lang/invoke/MethodHandle" ∧ y.cls ≠ "java/lang/invoke/VarHandle") (hsz : ls.size = maxL) (hst : st = argsL.reverse ++ rest) (hlen : ∀ sig, parseMethodDescriptor y.desc = some sig → argsL.length = sig.parameters.length) (hf : rm.frames + 1 ≤ R.frames) (hW : 2 * 0 + (rest.map fun v => v.category).sum ≤ W) (hl : W + (maxL' + 11) + rm.locals ≤ R.locals) (hc : cells + rm.cells ≤ R.cells) (hs : slots + rm.slots ≤ R.slots) (hd : decode bytes pc = .ok (.invokestatic index, 3)) (hp : pc + 3 = pc')
    (kk : ∀ v h', Keep h h' ws' → Q' v h' → G p l e R s m args below meth c n0 h0 ws Q (cells + rm.cells) (slots + rm.slots) h' (mkF m pc' ls (v.toList ++ rest))) : G p l e R s m args below meth c n0 h0 ws Q cells slots h (mkF m pc ls st) := fun T locs k n X hk hn eT N K => by
  subst hp hst
  obtain ⟨v, _, ⟨T', L', k', n'⟩, -, X', ⟨Lc, hQ, l1, y1, z1⟩, stp⟩ := Jvm.LawKit.callS X B.1.1 (y := y) B.1.2.2.2.1 (mvT B.1.2.2.2.2 w1) (mvT B.1.2.2.2.2 w2) (mvT B.1.2.2.2.2 wz) (mvT B.1.2.2.2.2 wc) hy (own_back (W := W) B M wc wz hf hl) (g := (mkF m pc ls (argsL.reverse ++ rest))) rfl (hsz.trans B.1.2.2.1.symm) (argsL := argsL) (rest := rest) hlen rfl hW (hb B.1.2.1 hd) (fun _ _ => ⟨rfl, eT, Nat.le_trans (Nat.add_le_add_right hk _) hc, Nat.le_trans (Nat.add_le_add_right hn _) hs⟩)
  dsimp only [Pt.U, Pt.locs, Pt.cells, Pt.slots] at X' l1 y1 z1 stp hQ
  subst l1 y1 z1
  obtain ⟨U, v, L, hs', r⟩ := kk v T'.heap hQ.2.1 hQ.2.2 T' (locs ++ Lc) _ _ X' (Nat.add_le_add_right hk _) (Nat.add_le_add_right hn _) rfl (Fr.app N hQ.1) (K.trans hQ.2.1 hws)
  exact ⟨U, v, L, stp _ hs', r⟩
theorem G.callC {a : Addr} {y : MethodName} {bytes' : ByteArray} {maxL' : Nat} {rt' : Option FieldType} {rm : Room} {ws' : List Addr} {Q' : Option Value → Heap → Prop} {index W : Nat} {argsL rest : List Value} (B : Cx p s m meth c Z own nm bytes maxL rt n0 h0 ws) (w0 : y.name = "<init>") (w1 : (Jvm.Cond.methodLink own index y).before a0 Z = true) (w2 : (Jvm.Cond.instanceMethod y).before a0 Z = true) (hrt : rt' = none) (M : Mt l Z y bytes' maxL' rt' [] rm n0 (.ref a :: argsL).toArray h ws' Q') (hws : ∀ x ∈ ws', x ∈ ws ∨ h0.size ≤ x) (wc : (Jvm.Cond.code y bytes' maxL' rt').before a0 Z = true) (wz : (Jvm.Cond.initialized y.cls).before a0 Z = true) (hy : y.cls ≠ "java/lang/invoke/MethodHandle" ∧ y.cls ≠ "java/lang/invoke/VarHandle") (hsz : ls.size = maxL) (hst : st = argsL.reverse ++ .ref a :: rest) (hlen : ∀ sig, parseMethodDescriptor y.desc = some sig → argsL.length = sig.parameters.length) (hf : rm.frames + 1 ≤ R.frames) (hW : 2 * 0 + (rest.map fun v => v.category).sum ≤ W) (hl : W + (maxL' + 11) + rm.locals ≤ R.locals) (hc : cells + rm.cells ≤ R.cells) (hs : slots + rm.slots ≤ R.slots) (hd : decode bytes pc = .ok (.invokespecial index, 3)) (hp : pc + 3 = pc')
    (kk : ∀ v h', Keep h h' ws' → Q' v h' → G p l e R s m args below meth c n0 h0 ws Q (cells + rm.cells) (slots + rm.slots) h' (mkF m pc' ls (v.toList ++ rest))) : G p l e R s m args below meth c n0 h0 ws Q cells slots h (mkF m pc ls st) := fun T locs k n X hk hn eT N K => by
  subst hp hst
  subst hrt
  obtain ⟨v, _, ⟨T', L', k', n'⟩, -, X', ⟨Lc, hQ, l1, y1, z1⟩, stp⟩ := X.specialBack B.1.1 (y := y) w0 B.1.2.2.2.1 (mvT B.1.2.2.2.2 w1) (mvT B.1.2.2.2.2 w2) (mvT B.1.2.2.2.2 wc) hy (own_back (W := W) B M wc wz hf hl) (g := (mkF m pc ls (argsL.reverse ++ .ref a :: rest))) rfl (hsz.trans B.1.2.2.1.symm) (Steps.refl _) (a := a) (argsL := argsL) (rest := rest) hlen rfl hW (hb B.1.2.1 hd) (fun _ _ => ⟨rfl, eT, Nat.le_trans (Nat.add_le_add_right hk _) hc, Nat.le_trans (Nat.add_le_add_right hn _) hs⟩)
  dsimp only [Pt.U, Pt.locs, Pt.cells, Pt.slots] at X' l1 y1 z1 stp hQ
  subst l1 y1 z1
  obtain ⟨U, v, L, hs', r⟩ := kk v T'.heap hQ.2.1 hQ.2.2 T' (locs ++ Lc) _ _ X' (Nat.add_le_add_right hk _) (Nat.add_le_add_right hn _) rfl (Fr.app N hQ.1) (K.trans hQ.2.1 hws)
  exact ⟨U, v, L, stp.trans hs', r⟩
theorem G.callV {a : Addr} {y : MethodName} {bytes' : ByteArray} {maxL' : Nat} {rt' : Option FieldType} {rm : Room} {ws' : List Addr} {Q' : Option Value → Heap → Prop} {index W : Nat} {argsL rest : List Value} (B : Cx p s m meth c Z own nm bytes maxL rt n0 h0 ws) (E : Exa Z h a y.cls) (w1 : (Jvm.Cond.methodLink own index y).before a0 Z = true) (w2 : (Jvm.Cond.declares y).before a0 Z = true) (w3 : (Jvm.Cond.selects y.cls y y).before a0 Z = true) (w4 : (Jvm.Cond.instanceMethod y).before a0 Z = true) (M : Mt l Z y bytes' maxL' rt' [] rm n0 (.ref a :: argsL).toArray h ws' Q') (hws : ∀ x ∈ ws', x ∈ ws ∨ h0.size ≤ x) (wc : (Jvm.Cond.code y bytes' maxL' rt').before a0 Z = true) (wz : (Jvm.Cond.initialized y.cls).before a0 Z = true) (hy : y.cls ≠ "java/lang/invoke/MethodHandle" ∧ y.cls ≠ "java/lang/invoke/VarHandle") (hsz : ls.size = maxL) (hst : st = argsL.reverse ++ .ref a :: rest) (hlen : ∀ sig, parseMethodDescriptor y.desc = some sig → argsL.length = sig.parameters.length) (hf : rm.frames + 1 ≤ R.frames) (hW : 2 * 0 + (rest.map fun v => v.category).sum ≤ W) (hl : W + (maxL' + 11) + rm.locals ≤ R.locals) (hc : cells + rm.cells ≤ R.cells) (hs : slots + rm.slots ≤ R.slots) (hd : decode bytes pc = .ok (.invokevirtual index, 3)) (hp : pc + 3 = pc')
    (kk : ∀ v h', Keep h h' ws' → Q' v h' → G p l e R s m args below meth c n0 h0 ws Q (cells + rm.cells) (slots + rm.slots) h' (mkF m pc' ls (v.toList ++ rest))) : G p l e R s m args below meth c n0 h0 ws Q cells slots h (mkF m pc ls st) := fun T locs k n X hk hn eT N K => by
  subst hp hst
  obtain ⟨cq, kq, qa, qb, qc⟩ := isOf B.1.2.2.2.2 eT E
  obtain ⟨v, _, ⟨T', L', k', n'⟩, -, X', ⟨Lc, hQ, l1, y1, z1⟩, stp⟩ := X.virtualBack B.1.1 (y := y) (z := y) B.1.2.2.2.1 (mvT B.1.2.2.2.2 w1) (mvT B.1.2.2.2.2 w2) (notFace_of_selects (args := #[]) (mvT B.1.2.2.2.2 w3)) (mvT B.1.2.2.2.2 w3) (mvT B.1.2.2.2.2 w4) hy (own_back (W := W) B M wc wz hf hl) qa qc (g := (mkF m pc ls (argsL.reverse ++ .ref a :: rest))) rfl (hsz.trans B.1.2.2.1.symm) (Steps.refl _) (argsL := argsL) (rest := rest) hlen rfl hW (hb B.1.2.1 hd) (fun _ _ => ⟨rfl, eT, Nat.le_trans (Nat.add_le_add_right hk _) hc, Nat.le_trans (Nat.add_le_add_right hn _) hs⟩)
  dsimp only [Pt.U, Pt.locs, Pt.cells, Pt.slots] at X' l1 y1 z1 stp hQ
  subst l1 y1 z1
  obtain ⟨U, v, L, hs', r⟩ := kk v T'.heap hQ.2.1 hQ.2.2 T' (locs ++ Lc) _ _ X' (Nat.add_le_add_right hk _) (Nat.add_le_add_right hn _) rfl (Fr.app N hQ.1) (K.trans hQ.2.1 hws)
  exact ⟨U, v, L, stp.trans hs', r⟩
theorem own_sel {args : Array Value} {s : State} {y z : MethodName} {K : String} (hz : (Jvm.Cond.selects K z z).before args s = true) (hcl : z.cls = y.cls) (hinst : (Jvm.Cond.instanceMethod y).before args s = true) (hpriv : s.PrivateAt y) (hy : y.cls ≠ "java/lang/invoke/MethodHandle" ∧ y.cls ≠ "java/lang/invoke/VarHandle") : (Jvm.Cond.selects y.cls y y).before args s = true := by
  obtain ⟨mk, meth, hnamed, hmeth, hst, hab⟩ := Cond.instanceMethod_spec hinst
  obtain ⟨c2, r2, m2, q1, q2, q3, q4, kP, hkP, hkPi⟩ := Cond.selects_spec hz
  have h1 := findClass_of_methodNamed hnamed
  have h2 := findClass_of_methodNamed q3
  rw [hcl, h1] at h2
  have h3 : mk.cls = m2.cls := Option.some.inj h2
  rw [← h3] at hkP
  have h4 := State.methodFound?_of_named hnamed hy
  have h5 := selectMethod_private (p := {}) (c := mk.cls) hmeth (hpriv mk meth hnamed hmeth)
  simp [Cond.before, Cond.holds, Cond.value, h1, h4, hnamed, h5, hkP, hkPi]
theorem G.callP {a : Addr} {z : MethodName} {K : String} {y : MethodName} {bytes' : ByteArray} {maxL' : Nat} {rt' : Option FieldType} {rm : Room} {ws' : List Addr} {Q' : Option Value → Heap → Prop} {index W : Nat} {argsL rest : List Value} (B : Cx p s m meth c Z own nm bytes maxL rt n0 h0 ws) (E : Exa Z h a y.cls) (w1 : (Jvm.Cond.methodLink own index y).before a0 Z = true) (w2 : (Jvm.Cond.privateMethod y).before a0 Z = true) (w3 : (Jvm.Cond.selects K z z).before a0 Z = true) (hcl : z.cls = y.cls) (w4 : (Jvm.Cond.instanceMethod y).before a0 Z = true) (M : Mt l Z y bytes' maxL' rt' [] rm n0 (.ref a :: argsL).toArray h ws' Q') (hws : ∀ x ∈ ws', x ∈ ws ∨ h0.size ≤ x) (wc : (Jvm.Cond.code y bytes' maxL' rt').before a0 Z = true) (wz : (Jvm.Cond.initialized y.cls).before a0 Z = true) (hy : y.cls ≠ "java/lang/invoke/MethodHandle" ∧ y.cls ≠ "java/lang/invoke/VarHandle") (hsz : ls.size = maxL) (hst : st = argsL.reverse ++ .ref a :: rest) (hlen : ∀ sig, parseMethodDescriptor y.desc = some sig → argsL.length = sig.parameters.length) (hf : rm.frames + 1 ≤ R.frames) (hW : 2 * 0 + (rest.map fun v => v.category).sum ≤ W) (hl : W + (maxL' + 11) + rm.locals ≤ R.locals) (hc : cells + rm.cells ≤ R.cells) (hs : slots + rm.slots ≤ R.slots) (hd : decode bytes pc = .ok (.invokevirtual index, 3)) (hp : pc + 3 = pc')
    (kk : ∀ v h', Keep h h' ws' → Q' v h' → G p l e R s m args below meth c n0 h0 ws Q (cells + rm.cells) (slots + rm.slots) h' (mkF m pc' ls (v.toList ++ rest))) : G p l e R s m args below meth c n0 h0 ws Q cells slots h (mkF m pc ls st) := fun T locs k n X hk hn eT N K => by
  subst hp hst
  obtain ⟨cq, q1, q2⟩ := E.cell
  obtain ⟨v, _, ⟨T', L', k', n'⟩, -, X', ⟨Lc, hQ, l1, y1, z1⟩, stp⟩ := X.privateBack B.1.1 (y := y) B.1.2.2.2.1 (mvT B.1.2.2.2.2 w1) (mvT B.1.2.2.2.2 w4) (own_sel (mvT B.1.2.2.2.2 w3) hcl (mvT B.1.2.2.2.2 w4) (Cond.privateMethod_at (mvP B.1.2.2.2.2 w2 (args := #[]))) hy) (Cond.privateMethod_at (mvP B.1.2.2.2.2 w2 (args := #[]))) (mvT B.1.2.2.2.2 wc) hy (own_back (W := W) B M wc wz hf hl) (g := (mkF m pc ls (argsL.reverse ++ .ref a :: rest))) rfl (hsz.trans B.1.2.2.1.symm) (Steps.refl _) (a := a) (by rw [eT]; exact q1) q2 (argsL := argsL) (rest := rest) hlen rfl hW (hb B.1.2.1 hd) (fun _ _ => ⟨rfl, eT, Nat.le_trans (Nat.add_le_add_right hk _) hc, Nat.le_trans (Nat.add_le_add_right hn _) hs⟩)
  dsimp only [Pt.U, Pt.locs, Pt.cells, Pt.slots] at X' l1 y1 z1 stp hQ
  subst l1 y1 z1
  obtain ⟨U, v, L, hs', r⟩ := kk v T'.heap hQ.2.1 hQ.2.2 T' (locs ++ Lc) _ _ X' (Nat.add_le_add_right hk _) (Nat.add_le_add_right hn _) rfl (Fr.app N hQ.1) (K.trans hQ.2.1 hws)
  exact ⟨U, v, L, stp.trans hs', r⟩
end OwnKit
def O_Re (Z : State) (h : Heap) (a : Addr) (v0 : Value) (v1 : Value) : Prop := Exa Z h a "com/example/libhybrid/libhybrid/circular/Rearrangement" ∧ Fld Z h a "com/example/libhybrid/libhybrid/circular/Rearrangement" "order" "[I" v0 ∧ Fld Z h a "com/example/libhybrid/libhybrid/circular/Rearrangement" "moved" "[Z" v1
theorem O_Re.lt {Z : State} {h : Heap} {a : Addr} {v0 : Value} {v1 : Value} (O : O_Re Z h a v0 v1) : a < h.size := Exa.lt O.1
theorem O_Re.keep {Z : State} {h h' : Heap} {a : Addr} {vs : List Addr} {v0 : Value} {v1 : Value} (O : O_Re Z h a v0 v1) (K : Keep h h' vs) (q : a ∉ vs) : O_Re Z h' a v0 v1 := by
  obtain ⟨g0, g1, g2⟩ := O
  exact ⟨g0.keep K, g1.keep K q, g2.keep K q⟩
theorem O_Re.set_0 {Z : State} {a0 : Array Value} {h h' : Heap} {a : Addr} {v0 : Value} {v1 : Value} {v : Value} (hw : ∀ d ∈ tables_1, d.before a0 Z = true) (O : O_Re Z h a v0 v1) (W : Wr h h' a (Jvm.RoadKit.slotOf Z "com/example/libhybrid/libhybrid/circular/Rearrangement" "order" "[I") v) : O_Re Z h' a v v1 := by
  obtain ⟨g0, g1, g2⟩ := O
  exact ⟨g0.wr W, g1.same W, g2.other W (Or.inr (slot_ne (C := "com/example/libhybrid/libhybrid/circular/Rearrangement") (Or.inr (hw _ (List.mem_of_getElem? (i := 20) rfl))) (Or.inr (hw _ (List.mem_of_getElem? (i := 18) rfl))) (by decide) (t := (.array .boolean)) (t' := (.array .int)) (by decide) (by decide)))⟩
theorem O_Re.set_1 {Z : State} {a0 : Array Value} {h h' : Heap} {a : Addr} {v0 : Value} {v1 : Value} {v : Value} (hw : ∀ d ∈ tables_1, d.before a0 Z = true) (O : O_Re Z h a v0 v1) (W : Wr h h' a (Jvm.RoadKit.slotOf Z "com/example/libhybrid/libhybrid/circular/Rearrangement" "moved" "[Z") v) : O_Re Z h' a v0 v := by
  obtain ⟨g0, g1, g2⟩ := O
  exact ⟨g0.wr W, g1.other W (Or.inr (slot_ne (C := "com/example/libhybrid/libhybrid/circular/Rearrangement") (Or.inr (hw _ (List.mem_of_getElem? (i := 18) rfl))) (Or.inr (hw _ (List.mem_of_getElem? (i := 20) rfl))) (by decide) (t := (.array .int)) (t' := (.array .boolean)) (by decide) (by decide))), g2.same W⟩
theorem d2_0 : decode jdk_30_method_1_code 0 = .ok (.aload_n 0, 1) := by decide +kernel
theorem d2_1 : decode jdk_30_method_1_code 1 = .ok (.invokespecial 1, 3) := by decide +kernel
theorem d2_4 : decode jdk_30_method_1_code 4 = .ok (.return_, 1) := by decide +kernel
theorem pn_2 : plainFor (⟨"java/lang/Record", "<init>", "()V"⟩ : MethodName) = true := plainFor_of_name (by first | (simp [plainName, overriddenIn]; done) | decide +kernel)
theorem ef_2 (m : MethodId) (r0 : Addr) : entryFrame m #[(.ref r0)] 1 = mkF m 0 #[.val (.ref r0)] [] := by first | (simp [entryFrame, mkF, argsToLocals, Value.category]; done) | rfl
theorem pd_0 : parseMethodDescriptor "()V" = some ⟨[], none⟩ := by decide +kernel
def Qq2 (Z : State) (r0 : Addr)  (h0 : Heap) : Heap → Prop := fun h' => h0 = h'
abbrev Gg2 (p : Program) (l : Launch) (e : Env) (s : State) (m : MethodId) (below : List Frame) (meth : Method) (c : Code) (n0 : Nat) (h0 : Heap) (Z : State) (r0 : Addr)  (cc ss : Nat) (hh : Heap) (gg : JFrame) : Prop := G p l e ({ frames := 1, cells := 0, slots := 0, locals := 12 } : Room) s m #[(.ref r0)] below meth c n0 h0 [] (RV (Qq2 Z r0  h0)) cc ss hh gg
set_option maxRecDepth 65536 in
set_option maxHeartbeats 40000000 in
theorem rm2 (l : Launch) (Z : State) (a0 : Array Value) (hw : ∀ d ∈ tables_1, d.before a0 Z = true) (r0 : Addr)  (h0 : Heap) (n0 : Nat) (hn : n0 ≤ h0.size)  :
    Mt l Z (⟨"java/lang/Record", "<init>", "()V"⟩ : MethodName) jdk_30_method_1_code 1 none [] ({ frames := 1, cells := 0, slots := 0, locals := 12 } : Room) n0 #[(.ref r0)] h0 [] (RV (Qq2 Z r0  h0)) := by
  refine Mt.intro pn_2 hn (fun x hx => nomatch hx) ?_
  have hz : h0.size ≤ h0.size := Nat.le_refl _
  intro p e s m below meth c B
  refine G.entry (ef_2 m r0) ?_
  show Gg2 p l e s m below meth c n0 h0 Z r0  0 0 h0 (mkF m 0 #[.val (.ref r0)] [])
  refine G.aloadN B d2_0 (v := (.ref r0)) rfl rfl (pc' := 1) rfl ?_
  refine G.initO B (hw _ (List.mem_of_getElem? (i := 14) rfl)) (hw _ (List.mem_of_getElem? (i := 15) rfl)) (hw _ (List.mem_of_getElem? (i := 16) rfl)) rfl d2_1 (pc' := 4) rfl (by decide) (W := 0) (Nat.le_of_eq rfl) (by decide) ?_
  exact G.retV B d2_4 (by decide) (by decide) rfl
theorem d1_0 : decode prog_33_method_1_code 0 = .ok (.aload_n 0, 1) := by decide +kernel
theorem d1_1 : decode prog_33_method_1_code 1 = .ok (.invokespecial 1, 3) := by decide +kernel
theorem d1_4 : decode prog_33_method_1_code 4 = .ok (.aload_n 0, 1) := by decide +kernel
theorem d1_5 : decode prog_33_method_1_code 5 = .ok (.aload_n 1, 1) := by decide +kernel
theorem d1_6 : decode prog_33_method_1_code 6 = .ok (.putfield 7, 3) := by decide +kernel
theorem d1_9 : decode prog_33_method_1_code 9 = .ok (.aload_n 0, 1) := by decide +kernel
theorem d1_10 : decode prog_33_method_1_code 10 = .ok (.aload_n 2, 1) := by decide +kernel
theorem d1_11 : decode prog_33_method_1_code 11 = .ok (.putfield 13, 3) := by decide +kernel
theorem d1_14 : decode prog_33_method_1_code 14 = .ok (.return_, 1) := by decide +kernel
theorem pn_1 : plainFor (⟨"com/example/libhybrid/libhybrid/circular/Rearrangement", "<init>", "([I[Z)V"⟩ : MethodName) = true := plainFor_of_name (by first | (simp [plainName, overriddenIn]; done) | decide +kernel)
theorem ef_1 (m : MethodId) (r0 : Addr) (r1 : Addr) (r2 : Addr) : entryFrame m #[(.ref r0), (.ref r1), (.ref r2)] 3 = mkF m 0 #[.val (.ref r0), .val (.ref r1), .val (.ref r2)] [] := by first | (simp [entryFrame, mkF, argsToLocals, Value.category]; done) | rfl
def Qq1 (Z : State) (r0 : Addr) (r1 : Addr) (r2 : Addr) (u0 u1 : Value) (h0 : Heap) : Heap → Prop := fun h' => O_Re Z h' r0 (.ref r1) (.ref r2)
abbrev Gg1 (p : Program) (l : Launch) (e : Env) (s : State) (m : MethodId) (below : List Frame) (meth : Method) (c : Code) (n0 : Nat) (h0 : Heap) (Z : State) (r0 : Addr) (r1 : Addr) (r2 : Addr) (u0 u1 : Value) (cc ss : Nat) (hh : Heap) (gg : JFrame) : Prop := G p l e ({ frames := 2, cells := 0, slots := 0, locals := 24 } : Room) s m #[(.ref r0), (.ref r1), (.ref r2)] below meth c n0 h0 [r0] (RV (Qq1 Z r0 r1 r2 u0 u1 h0)) cc ss hh gg
set_option maxRecDepth 65536 in
set_option maxHeartbeats 40000000 in
theorem rm1 (l : Launch) (Z : State) (a0 : Array Value) (hw : ∀ d ∈ tables_1, d.before a0 Z = true) (r0 : Addr) (r1 : Addr) (r2 : Addr) (u0 u1 : Value) (h0 : Heap) (n0 : Nat) (hn : n0 ≤ h0.size) (O : O_Re Z h0 r0 u0 u1) (hr : n0 ≤ r0) :
    Mt l Z (⟨"com/example/libhybrid/libhybrid/circular/Rearrangement", "<init>", "([I[Z)V"⟩ : MethodName) prog_33_method_1_code 3 none [] ({ frames := 2, cells := 0, slots := 0, locals := 24 } : Room) n0 #[(.ref r0), (.ref r1), (.ref r2)] h0 [r0] (RV (Qq1 Z r0 r1 r2 u0 u1 h0)) := by
  refine Mt.intro pn_1 hn (allS hr all0) ?_
  have hz : h0.size ≤ h0.size := Nat.le_refl _
  intro p e s m below meth c B
  refine G.entry (ef_1 m r0 r1 r2) ?_
  show Gg1 p l e s m below meth c n0 h0 Z r0 r1 r2 u0 u1 0 0 h0 (mkF m 0 #[.val (.ref r0), .val (.ref r1), .val (.ref r2)] [])
  refine G.aloadN B d1_0 (v := (.ref r0)) rfl rfl (pc' := 1) rfl ?_
  refine G.callC (y := (⟨"java/lang/Record", "<init>", "()V"⟩ : MethodName)) (a := r0) B rfl (hw _ (List.mem_of_getElem? (i := 9) rfl)) (hw _ (List.mem_of_getElem? (i := 10) rfl)) rfl (rm := ({ frames := 1, cells := 0, slots := 0, locals := 12 } : Room)) (ws' := []) (rm2 l Z a0 hw r0 _ n0 hn) (fun x hx => nomatch hx) (hw _ (List.mem_of_getElem? (i := 13) rfl)) (hw _ (List.mem_of_getElem? (i := 12) rfl)) (by decide) rfl (argsL := []) (rest := []) rfl (lenOf pd_0 rfl) (by decide) (W := 0) (Nat.le_of_eq rfl) (by decide) (by decide) (by decide) d1_1 (pc' := 4) rfl ?_
  rintro _ _ K1 ⟨rfl, rfl⟩
  show Gg1 p l e s m below meth c n0 h0 Z r0 r1 r2 u0 u1 0 0 h0 (mkF m 4 #[.val (.ref r0), .val (.ref r1), .val (.ref r2)] [])
  refine G.aloadN B d1_4 (v := (.ref r0)) rfl rfl (pc' := 5) rfl ?_
  refine G.aloadN B d1_5 (v := (.ref r1)) rfl rfl (pc' := 6) rfl ?_
  refine G.putF (C := "com/example/libhybrid/libhybrid/circular/Rearrangement") B (hw _ (List.mem_of_getElem? (i := 17) rfl)) Via.refl O.2.1 O.1 (Or.inr ⟨(hw _ (List.mem_of_getElem? (i := 18) rfl)), rfl, rfl⟩) (hw _ (List.mem_of_getElem? (i := 4) rfl)) (ty := (.array .int)) (v' := (.ref r1)) (by decide) rfl rfl (Or.inl (List.mem_of_getElem? (i := 0) rfl)) d1_6 (pc' := 9) rfl (fun h2 W2 => ?_)
  replace O := O.set_0 hw W2
  replace hn := Nat.le_trans hn (Keep.of_wr W2).1
  replace hz := Nat.le_trans hz (Keep.of_wr W2).1
  refine G.aloadN B d1_9 (v := (.ref r0)) rfl rfl (pc' := 10) rfl ?_
  refine G.aloadN B d1_10 (v := (.ref r2)) rfl rfl (pc' := 11) rfl ?_
  refine G.putF (C := "com/example/libhybrid/libhybrid/circular/Rearrangement") B (hw _ (List.mem_of_getElem? (i := 19) rfl)) Via.refl O.2.2 O.1 (Or.inr ⟨(hw _ (List.mem_of_getElem? (i := 20) rfl)), rfl, rfl⟩) (hw _ (List.mem_of_getElem? (i := 4) rfl)) (ty := (.array .boolean)) (v' := (.ref r2)) (by decide) rfl rfl (Or.inl (List.mem_of_getElem? (i := 0) rfl)) d1_11 (pc' := 14) rfl (fun h3 W3 => ?_)
  replace O := O.set_1 hw W3
  replace hn := Nat.le_trans hn (Keep.of_wr W3).1
  replace hz := Nat.le_trans hz (Keep.of_wr W3).1
  exact G.retV B d1_14 (by decide) (by decide) O
def cntb (f : Nat → Int32) : Nat → Int32
  | 0 => 0
  | k + 1 => cntb f k + (if f k = 0 then 0 else 1)
theorem own_ofNat {n : Nat} (h : n < 2147483648) : (Int32.ofNat n).toInt = (n : Int) := Int32.toInt_ofNat_of_lt (by omega)
theorem own_inc {x : Int32} {i : Nat} (h : x.toInt = (i : Int)) (hi : i < 1000) : (x + (1 : Int32)).toInt = ((i + 1 : Nat) : Int) := by
  have h1 := c_iadd x (1 : Int32)
  have h2 : (1 : Int32).toInt = 1 := by decide
  have h3 := rng32 (x + (1 : Int32))
  omega
theorem d4_0 : decode prog_33_method_2_code 0 = .ok (.iconst 0, 1) := by decide +kernel
theorem d4_1 : decode prog_33_method_2_code 1 = .ok (.istore_n 1, 1) := by decide +kernel
theorem d4_2 : decode prog_33_method_2_code 2 = .ok (.aload_n 0, 1) := by decide +kernel
theorem d4_3 : decode prog_33_method_2_code 3 = .ok (.getfield 13, 3) := by decide +kernel
theorem d4_6 : decode prog_33_method_2_code 6 = .ok (.astore_n 2, 1) := by decide +kernel
theorem d4_7 : decode prog_33_method_2_code 7 = .ok (.aload_n 2, 1) := by decide +kernel
theorem d4_8 : decode prog_33_method_2_code 8 = .ok (.arraylength, 1) := by decide +kernel
theorem d4_9 : decode prog_33_method_2_code 9 = .ok (.istore_n 3, 1) := by decide +kernel
theorem d4_10 : decode prog_33_method_2_code 10 = .ok (.iconst 0, 1) := by decide +kernel
theorem d4_11 : decode prog_33_method_2_code 11 = .ok (.istore 4, 2) := by decide +kernel
theorem d4_13 : decode prog_33_method_2_code 13 = .ok (.iload 4, 2) := by decide +kernel
theorem d4_15 : decode prog_33_method_2_code 15 = .ok (.iload_n 3, 1) := by decide +kernel
theorem d4_16 : decode prog_33_method_2_code 16 = .ok (.if_icmp .ge 28, 3) := by decide +kernel
theorem d4_19 : decode prog_33_method_2_code 19 = .ok (.aload_n 2, 1) := by decide +kernel
theorem d4_20 : decode prog_33_method_2_code 20 = .ok (.iload 4, 2) := by decide +kernel
theorem d4_22 : decode prog_33_method_2_code 22 = .ok (.baload, 1) := by decide +kernel
theorem d4_23 : decode prog_33_method_2_code 23 = .ok (.istore 5, 2) := by decide +kernel
theorem d4_25 : decode prog_33_method_2_code 25 = .ok (.iload_n 1, 1) := by decide +kernel
theorem d4_26 : decode prog_33_method_2_code 26 = .ok (.iload 5, 2) := by decide +kernel
theorem d4_28 : decode prog_33_method_2_code 28 = .ok (.ifCond .eq 7, 3) := by decide +kernel
theorem d4_31 : decode prog_33_method_2_code 31 = .ok (.iconst 1, 1) := by decide +kernel
theorem d4_32 : decode prog_33_method_2_code 32 = .ok (.goto 4, 3) := by decide +kernel
theorem d4_35 : decode prog_33_method_2_code 35 = .ok (.iconst 0, 1) := by decide +kernel
theorem d4_36 : decode prog_33_method_2_code 36 = .ok (.iadd, 1) := by decide +kernel
theorem d4_37 : decode prog_33_method_2_code 37 = .ok (.istore_n 1, 1) := by decide +kernel
theorem d4_38 : decode prog_33_method_2_code 38 = .ok (.iinc 4 1, 3) := by decide +kernel
theorem d4_41 : decode prog_33_method_2_code 41 = .ok (.goto (-28), 3) := by decide +kernel
theorem d4_44 : decode prog_33_method_2_code 44 = .ok (.iload_n 1, 1) := by decide +kernel
theorem d4_45 : decode prog_33_method_2_code 45 = .ok (.ireturn, 1) := by decide +kernel
theorem pn_4 : plainFor (⟨"com/example/libhybrid/libhybrid/circular/Rearrangement", "moves", "()I"⟩ : MethodName) = true := plainFor_of_name (by first | (simp [plainName, overriddenIn]; done) | decide +kernel)
theorem ef_4 (m : MethodId) (r0 : Addr) : entryFrame m #[(.ref r0)] 6 = mkF m 0 #[.val (.ref r0), .unset, .unset, .unset, .unset, .unset] [] := by first | (simp [entryFrame, mkF, argsToLocals, Value.category]; done) | rfl
def Qq4 (Z : State) (r0 : Addr) (ov : Value) (mv : Addr) (n : Nat) (f : Nat → Int32) (h0 : Heap) : Int32 → Heap → Prop := fun z h' => h0 = h' ∧ z = cntb f n
abbrev Gg4 (p : Program) (l : Launch) (e : Env) (s : State) (m : MethodId) (below : List Frame) (meth : Method) (c : Code) (n0 : Nat) (h0 : Heap) (Z : State) (r0 : Addr) (ov : Value) (mv : Addr) (n : Nat) (f : Nat → Int32) (cc ss : Nat) (hh : Heap) (gg : JFrame) : Prop := G p l e ({ frames := 0, cells := 0, slots := 0, locals := 0 } : Room) s m #[(.ref r0)] below meth c n0 h0 [] (RI (Qq4 Z r0 ov mv n f h0)) cc ss hh gg
set_option maxRecDepth 65536 in
set_option maxHeartbeats 40000000 in
theorem rm4 (l : Launch) (Z : State) (a0 : Array Value) (hw : ∀ d ∈ tables_1, d.before a0 Z = true) (r0 : Addr) (ov : Value) (mv : Addr) (n : Nat) (f : Nat → Int32) (h0 : Heap) (n0 : Nat) (hn : n0 ≤ h0.size) (O : O_Re Z h0 r0 ov (.ref mv)) (A : ArI Z h0 mv .boolean n f) (hn6 : n ≤ 6) :
    Mt l Z (⟨"com/example/libhybrid/libhybrid/circular/Rearrangement", "moves", "()I"⟩ : MethodName) prog_33_method_2_code 6 (some .int) [] ({ frames := 0, cells := 0, slots := 0, locals := 0 } : Room) n0 #[(.ref r0)] h0 [] (RI (Qq4 Z r0 ov mv n f h0)) := by
  refine Mt.intro pn_4 hn (fun x hx => nomatch hx) ?_
  have hz : h0.size ≤ h0.size := Nat.le_refl _
  intro p e s m below meth c B
  refine G.entry (ef_4 m r0) ?_
  show Gg4 p l e s m below meth c n0 h0 Z r0 ov mv n f 0 0 h0 (mkF m 0 #[.val (.ref r0), .unset, .unset, .unset, .unset, .unset] [])
  refine G.iconst B d4_0 (z := (0 : Int32)) rfl (pc' := 1) rfl ?_
  refine G.istoreN B d4_1 (ls' := #[.val (.ref r0), .val (.int (0 : Int32)), .unset, .unset, .unset, .unset]) rfl (pc' := 2) rfl ?_
  refine G.aloadN B d4_2 (v := (.ref r0)) rfl rfl (pc' := 3) rfl ?_
  refine G.getF B (host := "") (Or.inl (hw _ (List.mem_of_getElem? (i := 19) rfl))) Via.refl O.2.2 d4_3 (pc' := 6) rfl ?_
  refine G.astoreN B d4_6 rfl (ls' := #[.val (.ref r0), .val (.int (0 : Int32)), .val (.ref mv), .unset, .unset, .unset]) rfl (pc' := 7) rfl ?_
  refine G.aloadN B d4_7 (v := (.ref mv)) rfl rfl (pc' := 8) rfl ?_
  refine G.lenI B A (z := (Int32.ofNat n)) rfl d4_8 (pc' := 9) rfl ?_
  refine G.istoreN B d4_9 (ls' := #[.val (.ref r0), .val (.int (0 : Int32)), .val (.ref mv), .val (.int (Int32.ofNat n)), .unset, .unset]) rfl (pc' := 10) rfl ?_
  refine G.iconst B d4_10 (z := (0 : Int32)) rfl (pc' := 11) rfl ?_
  refine G.istore B d4_11 (ls' := #[.val (.ref r0), .val (.int (0 : Int32)), .val (.ref mv), .val (.int (Int32.ofNat n)), .val (.int (0 : Int32)), .unset]) rfl (pc' := 13) rfl ?_
  have hN := own_ofNat (n := n) (by omega)
  have loop : ∀ (k : Nat) (i : Nat) (acc : Int32) (ii : Int32) (w : Int32), (i + k = n) → (acc = cntb f i) → (ii.toInt = (i : Int)) → Gg4 p l e s m below meth c n0 h0 Z r0 ov mv n f 0 0 h0 (mkF m 13 #[.val (.ref r0), .val (.int acc), .val (.ref mv), .val (.int (Int32.ofNat n)), .val (.int ii), .val (.int w)] []) := by
    intro k
    induction k with
    | zero =>
      intro i acc ii w hi hacc hii
      rw [Nat.add_zero] at hi
      refine G.iload B d4_13 (v := ii) rfl (pc' := 15) rfl ?_
      refine G.iloadN B d4_15 (v := (Int32.ofNat n)) rfl (pc' := 16) rfl ?_
      have hc16 : (Int32.ofNat n).toInt ≤ ii.toInt := by omega
      refine G.icmp_ge B d4_16 (by decide) (pcT := 44) (by decide) (pc' := 19) rfl (fun _ => ?_) (fun q => absurd q (by first | exact Int.not_lt.mpr hc16 | exact Int.not_le.mpr hc16))
      refine G.iloadN B d4_44 (v := acc) rfl (pc' := 45) rfl ?_
      exact G.retI B d4_45 (by decide) (by decide) ⟨rfl, by subst hi; exact hacc⟩
    | succ k ih =>
      intro i acc ii w hi hacc hii
      refine G.iload B d4_13 (v := ii) rfl (pc' := 15) rfl ?_
      refine G.iloadN B d4_15 (v := (Int32.ofNat n)) rfl (pc' := 16) rfl ?_
      have hc16 : ii.toInt < (Int32.ofNat n).toInt := by omega
      refine G.icmp_ge B d4_16 (by decide) (pcT := 44) (by decide) (pc' := 19) rfl (fun q => absurd q (by first | exact Int.not_lt.mpr hc16 | exact Int.not_le.mpr hc16)) (fun _ => ?_)
      refine G.aloadN B d4_19 (v := (.ref mv)) rfl rfl (pc' := 20) rfl ?_
      refine G.iload B d4_20 (v := ii) rfl (pc' := 22) rfl ?_
      refine G.ldZ B A (i := i) hii (by omega) (x := (f i)) rfl d4_22 (pc' := 23) rfl ?_
      refine G.istore B d4_23 (ls' := #[.val (.ref r0), .val (.int acc), .val (.ref mv), .val (.int (Int32.ofNat n)), .val (.int ii), .val (.int (f i))]) rfl (pc' := 25) rfl ?_
      refine G.iloadN B d4_25 (v := acc) rfl (pc' := 26) rfl ?_
      refine G.iload B d4_26 (v := (f i)) rfl (pc' := 28) rfl ?_
      suffices K36 : ∀ (b : Int32), (((f i) = 0 ∧ b = (0 : Int32)) ∨ ((f i) ≠ 0 ∧ b = (1 : Int32))) → Gg4 p l e s m below meth c n0 h0 Z r0 ov mv n f 0 0 h0 (mkF m 36 #[.val (.ref r0), .val (.int acc), .val (.ref mv), .val (.int (Int32.ofNat n)), .val (.int ii), .val (.int (f i))] [(.int b), (.int acc)]) by
        refine G.if_eq B d4_28 (by decide) (pcT := 35) (by decide) (pc' := 31) rfl (fun (hc28 : (f i) = 0) => ?_) (fun (hc28 : (f i) ≠ 0) => ?_)
        · refine G.iconst B d4_35 (z := (0 : Int32)) rfl (pc' := 36) rfl ?_
          exact K36 (0 : Int32) (Or.inl ⟨hc28, rfl⟩)
        · refine G.iconst B d4_31 (z := (1 : Int32)) rfl (pc' := 32) rfl ?_
          refine G.goto B d4_32 (by decide) (pc' := 36) (by decide) ?_
          exact K36 (1 : Int32) (Or.inr ⟨hc28, rfl⟩)
      intro b hj36
      refine G.iadd B d4_36 (pc' := 37) rfl ?_
      refine G.istoreN B d4_37 (ls' := #[.val (.ref r0), .val (.int (acc + b)), .val (.ref mv), .val (.int (Int32.ofNat n)), .val (.int ii), .val (.int (f i))]) rfl (pc' := 38) rfl ?_
      refine G.iinc B d4_38 (x := ii) rfl (z := (ii + (1 : Int32))) rfl (ls' := #[.val (.ref r0), .val (.int (acc + b)), .val (.ref mv), .val (.int (Int32.ofNat n)), .val (.int (ii + (1 : Int32))), .val (.int (f i))]) rfl (pc' := 41) rfl ?_
      refine G.goto B d4_41 (by decide) (pc' := 13) (by decide) ?_
      have hb : b = (if f i = 0 then (0 : Int32) else 1) := by
        rcases hj36 with ⟨q, rfl⟩ | ⟨q, rfl⟩
        · rw [if_pos q]
        · rw [if_neg q]
      exact ih (i + 1) _ _ (f i) (by omega) (by rw [hacc, hb]; rfl) (own_inc hii (by omega))
  rcases Nat.eq_zero_or_pos n with h0n | h0n
  ·
    have hi : 0 = n := h0n.symm
    have hacc : (0 : Int32) = cntb f 0 := rfl
    refine G.iload B d4_13 (v := (0 : Int32)) rfl (pc' := 15) rfl ?_
    refine G.iloadN B d4_15 (v := (Int32.ofNat n)) rfl (pc' := 16) rfl ?_
    have hc16 : (Int32.ofNat n).toInt ≤ 0 := by omega
    refine G.icmp_ge B d4_16 (by decide) (pcT := 44) (by decide) (pc' := 19) rfl (fun _ => ?_) (fun q => absurd q (by first | exact Int.not_lt.mpr hc16 | exact Int.not_le.mpr hc16))
    refine G.iloadN B d4_44 (v := (0 : Int32)) rfl (pc' := 45) rfl ?_
    exact G.retI B d4_45 (by decide) (by decide) ⟨rfl, by subst h0n; rfl⟩
  ·
    obtain ⟨k, hk⟩ : ∃ k, n = 1 + k := ⟨n - 1, by omega⟩
    have hacc : (0 : Int32) = cntb f 0 := rfl
    have hii : (0 : Int32).toInt = ((0 : Nat) : Int) := by decide
    refine G.iload B d4_13 (v := (0 : Int32)) rfl (pc' := 15) rfl ?_
    refine G.iloadN B d4_15 (v := (Int32.ofNat n)) rfl (pc' := 16) rfl ?_
    have hc16 : 0 < (Int32.ofNat n).toInt := by omega
    refine G.icmp_ge B d4_16 (by decide) (pcT := 44) (by decide) (pc' := 19) rfl (fun q => absurd q (by first | exact Int.not_lt.mpr hc16 | exact Int.not_le.mpr hc16)) (fun _ => ?_)
    refine G.aloadN B d4_19 (v := (.ref mv)) rfl rfl (pc' := 20) rfl ?_
    refine G.iload B d4_20 (v := (0 : Int32)) rfl (pc' := 22) rfl ?_
    refine G.ldZ B A (i := 0) hii (by omega) (x := (f 0)) rfl d4_22 (pc' := 23) rfl ?_
    refine G.istore B d4_23 (ls' := #[.val (.ref r0), .val (.int (0 : Int32)), .val (.ref mv), .val (.int (Int32.ofNat n)), .val (.int (0 : Int32)), .val (.int (f 0))]) rfl (pc' := 25) rfl ?_
    refine G.iloadN B d4_25 (v := (0 : Int32)) rfl (pc' := 26) rfl ?_
    refine G.iload B d4_26 (v := (f 0)) rfl (pc' := 28) rfl ?_
    suffices K36 : ∀ (b : Int32), (((f 0) = 0 ∧ b = (0 : Int32)) ∨ ((f 0) ≠ 0 ∧ b = (1 : Int32))) → Gg4 p l e s m below meth c n0 h0 Z r0 ov mv n f 0 0 h0 (mkF m 36 #[.val (.ref r0), .val (.int (0 : Int32)), .val (.ref mv), .val (.int (Int32.ofNat n)), .val (.int (0 : Int32)), .val (.int (f 0))] [(.int b), (.int (0 : Int32))]) by
      refine G.if_eq B d4_28 (by decide) (pcT := 35) (by decide) (pc' := 31) rfl (fun (hc28 : (f 0) = 0) => ?_) (fun (hc28 : (f 0) ≠ 0) => ?_)
      · refine G.iconst B d4_35 (z := (0 : Int32)) rfl (pc' := 36) rfl ?_
        exact K36 (0 : Int32) (Or.inl ⟨hc28, rfl⟩)
      · refine G.iconst B d4_31 (z := (1 : Int32)) rfl (pc' := 32) rfl ?_
        refine G.goto B d4_32 (by decide) (pc' := 36) (by decide) ?_
        exact K36 (1 : Int32) (Or.inr ⟨hc28, rfl⟩)
    intro b hj36
    refine G.iadd B d4_36 (pc' := 37) rfl ?_
    refine G.istoreN B d4_37 (ls' := #[.val (.ref r0), .val (.int ((0 : Int32) + b)), .val (.ref mv), .val (.int (Int32.ofNat n)), .val (.int (0 : Int32)), .val (.int (f 0))]) rfl (pc' := 38) rfl ?_
    refine G.iinc B d4_38 (x := (0 : Int32)) rfl (z := (1 : Int32)) rfl (ls' := #[.val (.ref r0), .val (.int ((0 : Int32) + b)), .val (.ref mv), .val (.int (Int32.ofNat n)), .val (.int (1 : Int32)), .val (.int (f 0))]) rfl (pc' := 41) rfl ?_
    refine G.goto B d4_41 (by decide) (pc' := 13) (by decide) ?_
    have hb : b = (if f 0 = 0 then (0 : Int32) else 1) := by
      rcases hj36 with ⟨q, rfl⟩ | ⟨q, rfl⟩
      · rw [if_pos q]
      · rw [if_neg q]
    exact loop k 1 _ _ (f 0) (by omega) (by rw [hb]; rfl) (by decide)
def bt (x : Int32) : Nat → Int32
  | 0 => x &&& 1
  | k + 1 => ((x.toUInt32 >>> ((Int32.ofNat (k + 1)) &&& 31).toUInt32).toInt32) &&& 1
def sm (x : Int32) : Nat → Int32
  | 0 => 0
  | k + 1 => sm x k + bt x k
theorem own_01 (x : Int32) : x &&& (1 : Int32) = 0 ∨ x &&& (1 : Int32) = 1 := by
  have h := c_mask x 1 1 (by decide) (by decide)
  have : (x &&& (1 : Int32)).toInt = 0 ∨ (x &&& (1 : Int32)).toInt = 1 := by omega
  rcases this with h | h
  · left; exact Int32.toInt_inj.mp h
  · right; exact Int32.toInt_inj.mp h
theorem own_bt (x : Int32) (k : Nat) : bt x k = 0 ∨ bt x k = 1 := by cases k <;> exact own_01 _
theorem own_bz {x z : Int32} {k : Nat} (h : (bt x k = 0 ∧ z = 0) ∨ (bt x k ≠ 0 ∧ z = 1)) : nar .boolean z = bt x k := by
  rcases h with ⟨a, rfl⟩ | ⟨a, rfl⟩
  · rw [a]; rfl
  · rcases own_bt x k with q | q
    · exact absurd q a
    · rw [q]; rfl
theorem own_cs (x : Int32) (f : Nat → Int32) (n : Nat) (h : ∀ j, j < n → f j = bt x j) : cntb f n = sm x n := by
  induction n with
  | zero => rfl
  | succ n ih =>
    show cntb f n + _ = sm x n + bt x n
    rw [ih (fun j hj => h j (by omega)), h n (by omega)]
    congr 1
    rcases own_bt x n with q | q <;> rw [q] <;> decide
theorem own_n (x : Int32) : ∃ n : Nat, ((x &&& (2147483647 : Int32)) % (7 : Int32)).toInt = (n : Int) ∧ n ≤ 6 := by
  have h := c_mask x 2147483647 31 (by decide) (by decide)
  have h1 := (c_irem (x &&& (2147483647 : Int32)) 7 7 (by decide)).1 (by omega)
  exact ⟨((x &&& (2147483647 : Int32)) % (7 : Int32)).toInt.toNat, by omega, by omega⟩
theorem pn_0 : plainFor x = true := plainFor_of_name (by first | (simp [plainName, overriddenIn]; done) | decide +kernel)
theorem ef_0 (m : MethodId) (p0 : Int32) (p1 : Int32) : entryFrame m #[(.int p0), (.int p1)] maxLocals = mkF m 0 #[.val (.int p0), .val (.int p1), .unset, .unset, .unset, .unset, .unset] [] := by first | (simp [entryFrame, mkF, argsToLocals, Value.category, maxLocals]; done) | rfl
theorem pd_1 : parseMethodDescriptor "([I[Z)V" = some ⟨[(.array .int), (.array .boolean)], none⟩ := by decide +kernel
theorem pd_2 : parseMethodDescriptor "()I" = some ⟨[], some .int⟩ := by decide +kernel
def Qq0 (Z : State) (p0 : Int32) (p1 : Int32)  (h0 : Heap) : Int32 → Heap → Prop := fun z _ => z = 1
abbrev Gg0 (p : Program) (l : Launch) (e : Env) (s : State) (m : MethodId) (below : List Frame) (meth : Method) (c : Code) (n0 : Nat) (h0 : Heap) (Z : State) (p0 : Int32) (p1 : Int32)  (cc ss : Nat) (hh : Heap) (gg : JFrame) : Prop := G p l e room_1 s m #[(.int p0), (.int p1)] below meth c n0 h0 [] (RI (Qq0 Z p0 p1  h0)) cc ss hh gg
set_option maxRecDepth 65536 in
set_option maxHeartbeats 40000000 in
theorem rm0 (l : Launch) (Z : State) (a0 : Array Value) (hw : ∀ d ∈ tables_1, d.before a0 Z = true) (p0 : Int32) (p1 : Int32)  (h0 : Heap) (n0 : Nat) (hn : n0 ≤ h0.size)  :
    Mt l Z x code maxLocals ret tables_1 room_1 n0 #[(.int p0), (.int p1)] h0 [] (RI (Qq0 Z p0 p1  h0)) := by
  refine Mt.intro pn_0 hn (fun x hx => nomatch hx) ?_
  have hz : h0.size ≤ h0.size := Nat.le_refl _
  intro p e s m below meth c B
  refine G.entry (ef_0 m p0 p1) ?_
  show Gg0 p l e s m below meth c n0 h0 Z p0 p1  0 0 h0 (mkF m 0 #[.val (.int p0), .val (.int p1), .unset, .unset, .unset, .unset, .unset] [])
  refine G.iloadN B at_0 (v := p1) rfl (pc' := 1) rfl ?_
  refine G.ldcI B (hw _ (List.mem_of_getElem? (i := 0) rfl)) at_1 (pc' := 3) rfl ?_
  refine G.iand B at_3 (pc' := 4) rfl ?_
  refine G.bipush B at_4 (z := (7 : Int32)) rfl (pc' := 6) rfl ?_
  refine G.irem B at_6 (by decide) (pc' := 7) rfl ?_
  refine G.istoreN B at_7 (ls' := #[.val (.int p0), .val (.int p1), .val (.int ((p1 &&& (2147483647 : Int32)) % (7 : Int32))), .unset, .unset, .unset, .unset]) rfl (pc' := 8) rfl ?_
  obtain ⟨nn, e_nn⟩ : ∃ z, z = ((p1 &&& (2147483647 : Int32)) % (7 : Int32)) := ⟨_, rfl⟩
  rw [← e_nn]
  show Gg0 p l e s m below meth c n0 h0 Z p0 p1  0 0 h0 (mkF m 8 #[.val (.int p0), .val (.int p1), .val (.int nn), .unset, .unset, .unset, .unset] [])
  obtain ⟨n, hnn, hn6⟩ : ∃ n : Nat, nn.toInt = (n : Int) ∧ n ≤ 6 := e_nn ▸ own_n p1
  refine G.iloadN B at_8 (v := nn) rfl (pc' := 9) rfl ?_
  refine G.newZ B (hw _ (List.mem_of_getElem? (i := 1) rfl)) (n := n) hnn (cap := 6) hn6 (by decide) at_9 (pc' := 11) rfl (by decide) (by decide) (fun h1 mv hs_mv hf_mv K1 A_mv => ?_)
  replace hn := Nat.le_trans hn K1.1
  replace hz := Nat.le_trans hz K1.1
  show Gg0 p l e s m below meth c n0 h0 Z p0 p1  1 6 h1 (mkF m 11 #[.val (.int p0), .val (.int p1), .val (.int nn), .unset, .unset, .unset, .unset] [(.ref mv)])
  refine G.astoreN B at_11 rfl (ls' := #[.val (.int p0), .val (.int p1), .val (.int nn), .val (.ref mv), .unset, .unset, .unset]) rfl (pc' := 12) rfl ?_
  refine G.iloadN B at_12 (v := nn) rfl (pc' := 13) rfl ?_
  refine G.newI B (hw _ (List.mem_of_getElem? (i := 2) rfl)) (n := n) hnn (cap := 6) hn6 (by decide) at_13 (pc' := 15) rfl (by decide) (by decide) (fun h2 od hs_od hf_od K2 A_od => ?_)
  have ne_mv_od : mv ≠ od := Nat.ne_of_lt (hs_od ▸ A_mv.lt)
  replace hn := Nat.le_trans hn K2.1
  replace hz := Nat.le_trans hz K2.1
  replace A_mv := A_mv.keep K2 nin0
  show Gg0 p l e s m below meth c n0 h0 Z p0 p1  2 12 h2 (mkF m 15 #[.val (.int p0), .val (.int p1), .val (.int nn), .val (.ref mv), .unset, .unset, .unset] [(.ref od)])
  refine G.astore B at_15 rfl (ls' := #[.val (.int p0), .val (.int p1), .val (.int nn), .val (.ref mv), .val (.ref od), .unset, .unset]) rfl (pc' := 17) rfl ?_
  refine G.iconst B at_17 (z := (0 : Int32)) rfl (pc' := 18) rfl ?_
  refine G.istore B at_18 (ls' := #[.val (.int p0), .val (.int p1), .val (.int nn), .val (.ref mv), .val (.ref od), .val (.int (0 : Int32)), .unset]) rfl (pc' := 20) rfl ?_
  suffices K51 : ∀ (h_51 : Heap) (f1 : Nat → Int32) (go1 : Nat → Int32) (ex1 : Int32), n0 ≤ h_51.size → h0.size ≤ h_51.size → ArI Z h_51 mv .boolean n f1 → ArI Z h_51 od .int n go1 → (∀ j, j < min n 1 → f1 j = bt p0 j) → (ex1 = sm p0 (min n 1)) → Gg0 p l e s m below meth c n0 h0 Z p0 p1  2 12 h_51 (mkF m 51 #[.val (.int p0), .val (.int p1), .val (.int nn), .val (.ref mv), .val (.ref od), .val (.int ex1), .unset] []) by
    refine G.iloadN B at_20 (v := nn) rfl (pc' := 21) rfl ?_
    refine G.if_le B at_21 (by decide) (pcT := 51) (by decide) (pc' := 24) rfl (fun (hc21 : nn.toInt ≤ 0) => ?_) (fun (hc21 : 0 < nn.toInt) => ?_)
    · exact K51 h2 (fun _ => 0) (fun _ => 0) (0 : Int32) hn hz A_mv A_od (fun j hj => by omega) (by rw [show min n 1 = 0 by omega]; rfl)
    · refine G.aloadN B at_24 (v := (.ref mv)) rfl rfl (pc' := 25) rfl ?_
      refine G.iconst B at_25 (z := (0 : Int32)) rfl (pc' := 26) rfl ?_
      refine G.iloadN B at_26 (v := p0) rfl (pc' := 27) rfl ?_
      refine G.iconst B at_27 (z := (1 : Int32)) rfl (pc' := 28) rfl ?_
      refine G.iand B at_28 (pc' := 29) rfl ?_
      suffices K37 : ∀ (b : Int32), (((p0 &&& (1 : Int32)) = 0 ∧ b = (0 : Int32)) ∨ ((p0 &&& (1 : Int32)) ≠ 0 ∧ b = (1 : Int32))) → Gg0 p l e s m below meth c n0 h0 Z p0 p1  2 12 h2 (mkF m 37 #[.val (.int p0), .val (.int p1), .val (.int nn), .val (.ref mv), .val (.ref od), .val (.int (0 : Int32)), .unset] [(.int b), (.int (0 : Int32)), (.ref mv)]) by
        refine G.if_eq B at_29 (by decide) (pcT := 36) (by decide) (pc' := 32) rfl (fun (hc29 : (p0 &&& (1 : Int32)) = 0) => ?_) (fun (hc29 : (p0 &&& (1 : Int32)) ≠ 0) => ?_)
        · refine G.iconst B at_36 (z := (0 : Int32)) rfl (pc' := 37) rfl ?_
          exact K37 (0 : Int32) (Or.inl ⟨hc29, rfl⟩)
        · refine G.iconst B at_32 (z := (1 : Int32)) rfl (pc' := 33) rfl ?_
          refine G.goto B at_33 (by decide) (pc' := 37) (by decide) ?_
          exact K37 (1 : Int32) (Or.inr ⟨hc29, rfl⟩)
      intro b hj37
      refine G.stZ B A_mv (i := 0) (by decide) (by omega) (Or.inr hf_mv) (z := (bt p0 0)) (own_bz (k := 0) hj37) at_37 (pc' := 38) rfl (fun h3 K3 A3 => ?_)
      replace A_mv := A3
      replace hn := Nat.le_trans hn K3.1
      replace hz := Nat.le_trans hz K3.1
      replace A_od := A_od.keep K3 (ninS (Ne.symm ne_mv_od) nin0)
      refine G.iload B at_38 (v := (0 : Int32)) rfl (pc' := 40) rfl ?_
      refine G.iloadN B at_40 (v := p0) rfl (pc' := 41) rfl ?_
      refine G.iconst B at_41 (z := (1 : Int32)) rfl (pc' := 42) rfl ?_
      refine G.iand B at_42 (pc' := 43) rfl ?_
      refine G.iadd B at_43 (pc' := 44) rfl ?_
      refine G.istore B at_44 (ls' := #[.val (.int p0), .val (.int p1), .val (.int nn), .val (.ref mv), .val (.ref od), .val (.int ((0 : Int32) + (p0 &&& (1 : Int32)))), .unset]) rfl (pc' := 46) rfl ?_
      refine G.aload B at_46 (v := (.ref od)) rfl rfl (pc' := 48) rfl ?_
      refine G.iconst B at_48 (z := (0 : Int32)) rfl (pc' := 49) rfl ?_
      refine G.iconst B at_49 (z := (0 : Int32)) rfl (pc' := 50) rfl ?_
      refine G.stI B A_od (i := 0) (by decide) (by omega) (Or.inr hf_od) at_50 (pc' := 51) rfl (fun h4 K4 A4 => ?_)
      replace A_od := A4
      replace hn := Nat.le_trans hn K4.1
      replace hz := Nat.le_trans hz K4.1
      replace A_mv := A_mv.keep K4 (ninS ne_mv_od nin0)
      exact K51 h4 (up (fun _ => 0) 0 (bt p0 0)) (up (fun _ => 0) 0 (0 : Int32)) ((0 : Int32) + (p0 &&& (1 : Int32))) hn hz A_mv A_od (fun j hj => by
          by_cases e : j = 0
          · subst e; simp [up]
          · simp only [up, if_neg e]; omega) (by rw [show min n 1 = 1 by omega]; show _ = sm p0 0 + bt p0 0; rfl)
  clear hn hz
  intro h_51 f1 go1 ex1 hn hz A_mv A_od hv1 hx1
  suffices K87 : ∀ (h_87 : Heap) (f2 : Nat → Int32) (go2 : Nat → Int32) (ex2 : Int32), n0 ≤ h_87.size → h0.size ≤ h_87.size → ArI Z h_87 mv .boolean n f2 → ArI Z h_87 od .int n go2 → (∀ j, j < min n 2 → f2 j = bt p0 j) → (ex2 = sm p0 (min n 2)) → Gg0 p l e s m below meth c n0 h0 Z p0 p1  2 12 h_87 (mkF m 87 #[.val (.int p0), .val (.int p1), .val (.int nn), .val (.ref mv), .val (.ref od), .val (.int ex2), .unset] []) by
    refine G.iloadN B at_51 (v := nn) rfl (pc' := 52) rfl ?_
    refine G.iconst B at_52 (z := (1 : Int32)) rfl (pc' := 53) rfl ?_
    refine G.icmp_le B at_53 (by decide) (pcT := 87) (by decide) (pc' := 56) rfl (fun (hc53 : nn.toInt ≤ 1) => ?_) (fun (hc53 : 1 < nn.toInt) => ?_)
    · exact K87 h_51 f1 go1 ex1 hn hz A_mv A_od (fun j hj => hv1 j (by omega)) (by rw [hx1, show min n 1 = min n 2 by omega])
    · refine G.aloadN B at_56 (v := (.ref mv)) rfl rfl (pc' := 57) rfl ?_
      refine G.iconst B at_57 (z := (1 : Int32)) rfl (pc' := 58) rfl ?_
      refine G.iloadN B at_58 (v := p0) rfl (pc' := 59) rfl ?_
      refine G.iconst B at_59 (z := (1 : Int32)) rfl (pc' := 60) rfl ?_
      refine G.iushr B at_60 (pc' := 61) rfl ?_
      refine G.iconst B at_61 (z := (1 : Int32)) rfl (pc' := 62) rfl ?_
      refine G.iand B at_62 (pc' := 63) rfl ?_
      suffices K71 : ∀ (b : Int32), (((((p0.toUInt32 >>> ((1 : Int32) &&& 31).toUInt32).toInt32) &&& (1 : Int32)) = 0 ∧ b = (0 : Int32)) ∨ ((((p0.toUInt32 >>> ((1 : Int32) &&& 31).toUInt32).toInt32) &&& (1 : Int32)) ≠ 0 ∧ b = (1 : Int32))) → Gg0 p l e s m below meth c n0 h0 Z p0 p1  2 12 h_51 (mkF m 71 #[.val (.int p0), .val (.int p1), .val (.int nn), .val (.ref mv), .val (.ref od), .val (.int ex1), .unset] [(.int b), (.int (1 : Int32)), (.ref mv)]) by
        refine G.if_eq B at_63 (by decide) (pcT := 70) (by decide) (pc' := 66) rfl (fun (hc63 : (((p0.toUInt32 >>> ((1 : Int32) &&& 31).toUInt32).toInt32) &&& (1 : Int32)) = 0) => ?_) (fun (hc63 : (((p0.toUInt32 >>> ((1 : Int32) &&& 31).toUInt32).toInt32) &&& (1 : Int32)) ≠ 0) => ?_)
        · refine G.iconst B at_70 (z := (0 : Int32)) rfl (pc' := 71) rfl ?_
          exact K71 (0 : Int32) (Or.inl ⟨hc63, rfl⟩)
        · refine G.iconst B at_66 (z := (1 : Int32)) rfl (pc' := 67) rfl ?_
          refine G.goto B at_67 (by decide) (pc' := 71) (by decide) ?_
          exact K71 (1 : Int32) (Or.inr ⟨hc63, rfl⟩)
      intro b hj71
      refine G.stZ B A_mv (i := 1) (by decide) (by omega) (Or.inr hf_mv) (z := (bt p0 1)) (own_bz (k := 1) hj71) at_71 (pc' := 72) rfl (fun h5 K5 A5 => ?_)
      replace A_mv := A5
      replace hn := Nat.le_trans hn K5.1
      replace hz := Nat.le_trans hz K5.1
      replace A_od := A_od.keep K5 (ninS (Ne.symm ne_mv_od) nin0)
      refine G.iload B at_72 (v := ex1) rfl (pc' := 74) rfl ?_
      refine G.iloadN B at_74 (v := p0) rfl (pc' := 75) rfl ?_
      refine G.iconst B at_75 (z := (1 : Int32)) rfl (pc' := 76) rfl ?_
      refine G.iushr B at_76 (pc' := 77) rfl ?_
      refine G.iconst B at_77 (z := (1 : Int32)) rfl (pc' := 78) rfl ?_
      refine G.iand B at_78 (pc' := 79) rfl ?_
      refine G.iadd B at_79 (pc' := 80) rfl ?_
      refine G.istore B at_80 (ls' := #[.val (.int p0), .val (.int p1), .val (.int nn), .val (.ref mv), .val (.ref od), .val (.int (ex1 + (((p0.toUInt32 >>> ((1 : Int32) &&& 31).toUInt32).toInt32) &&& (1 : Int32)))), .unset]) rfl (pc' := 82) rfl ?_
      refine G.aload B at_82 (v := (.ref od)) rfl rfl (pc' := 84) rfl ?_
      refine G.iconst B at_84 (z := (1 : Int32)) rfl (pc' := 85) rfl ?_
      refine G.iconst B at_85 (z := (1 : Int32)) rfl (pc' := 86) rfl ?_
      refine G.stI B A_od (i := 1) (by decide) (by omega) (Or.inr hf_od) at_86 (pc' := 87) rfl (fun h6 K6 A6 => ?_)
      replace A_od := A6
      replace hn := Nat.le_trans hn K6.1
      replace hz := Nat.le_trans hz K6.1
      replace A_mv := A_mv.keep K6 (ninS ne_mv_od nin0)
      exact K87 h6 (up f1 1 (bt p0 1)) (up go1 1 (1 : Int32)) (ex1 + (((p0.toUInt32 >>> ((1 : Int32) &&& 31).toUInt32).toInt32) &&& (1 : Int32))) hn hz A_mv A_od (fun j hj => by
          by_cases e : j = 1
          · subst e; simp [up]
          · simp only [up, if_neg e]; exact hv1 j (by omega)) (by rw [show min n 2 = 2 by omega]; show _ = sm p0 1 + bt p0 1; rw [hx1, show min n 1 = 1 by omega]; rfl)
  clear hn hz
  intro h_87 f2 go2 ex2 hn hz A_mv A_od hv2 hx2
  suffices K123 : ∀ (h_123 : Heap) (f3 : Nat → Int32) (go3 : Nat → Int32) (ex3 : Int32), n0 ≤ h_123.size → h0.size ≤ h_123.size → ArI Z h_123 mv .boolean n f3 → ArI Z h_123 od .int n go3 → (∀ j, j < min n 3 → f3 j = bt p0 j) → (ex3 = sm p0 (min n 3)) → Gg0 p l e s m below meth c n0 h0 Z p0 p1  2 12 h_123 (mkF m 123 #[.val (.int p0), .val (.int p1), .val (.int nn), .val (.ref mv), .val (.ref od), .val (.int ex3), .unset] []) by
    refine G.iloadN B at_87 (v := nn) rfl (pc' := 88) rfl ?_
    refine G.iconst B at_88 (z := (2 : Int32)) rfl (pc' := 89) rfl ?_
    refine G.icmp_le B at_89 (by decide) (pcT := 123) (by decide) (pc' := 92) rfl (fun (hc89 : nn.toInt ≤ 2) => ?_) (fun (hc89 : 2 < nn.toInt) => ?_)
    · exact K123 h_87 f2 go2 ex2 hn hz A_mv A_od (fun j hj => hv2 j (by omega)) (by rw [hx2, show min n 2 = min n 3 by omega])
    · refine G.aloadN B at_92 (v := (.ref mv)) rfl rfl (pc' := 93) rfl ?_
      refine G.iconst B at_93 (z := (2 : Int32)) rfl (pc' := 94) rfl ?_
      refine G.iloadN B at_94 (v := p0) rfl (pc' := 95) rfl ?_
      refine G.iconst B at_95 (z := (2 : Int32)) rfl (pc' := 96) rfl ?_
      refine G.iushr B at_96 (pc' := 97) rfl ?_
      refine G.iconst B at_97 (z := (1 : Int32)) rfl (pc' := 98) rfl ?_
      refine G.iand B at_98 (pc' := 99) rfl ?_
      suffices K107 : ∀ (b : Int32), (((((p0.toUInt32 >>> ((2 : Int32) &&& 31).toUInt32).toInt32) &&& (1 : Int32)) = 0 ∧ b = (0 : Int32)) ∨ ((((p0.toUInt32 >>> ((2 : Int32) &&& 31).toUInt32).toInt32) &&& (1 : Int32)) ≠ 0 ∧ b = (1 : Int32))) → Gg0 p l e s m below meth c n0 h0 Z p0 p1  2 12 h_87 (mkF m 107 #[.val (.int p0), .val (.int p1), .val (.int nn), .val (.ref mv), .val (.ref od), .val (.int ex2), .unset] [(.int b), (.int (2 : Int32)), (.ref mv)]) by
        refine G.if_eq B at_99 (by decide) (pcT := 106) (by decide) (pc' := 102) rfl (fun (hc99 : (((p0.toUInt32 >>> ((2 : Int32) &&& 31).toUInt32).toInt32) &&& (1 : Int32)) = 0) => ?_) (fun (hc99 : (((p0.toUInt32 >>> ((2 : Int32) &&& 31).toUInt32).toInt32) &&& (1 : Int32)) ≠ 0) => ?_)
        · refine G.iconst B at_106 (z := (0 : Int32)) rfl (pc' := 107) rfl ?_
          exact K107 (0 : Int32) (Or.inl ⟨hc99, rfl⟩)
        · refine G.iconst B at_102 (z := (1 : Int32)) rfl (pc' := 103) rfl ?_
          refine G.goto B at_103 (by decide) (pc' := 107) (by decide) ?_
          exact K107 (1 : Int32) (Or.inr ⟨hc99, rfl⟩)
      intro b hj107
      refine G.stZ B A_mv (i := 2) (by decide) (by omega) (Or.inr hf_mv) (z := (bt p0 2)) (own_bz (k := 2) hj107) at_107 (pc' := 108) rfl (fun h7 K7 A7 => ?_)
      replace A_mv := A7
      replace hn := Nat.le_trans hn K7.1
      replace hz := Nat.le_trans hz K7.1
      replace A_od := A_od.keep K7 (ninS (Ne.symm ne_mv_od) nin0)
      refine G.iload B at_108 (v := ex2) rfl (pc' := 110) rfl ?_
      refine G.iloadN B at_110 (v := p0) rfl (pc' := 111) rfl ?_
      refine G.iconst B at_111 (z := (2 : Int32)) rfl (pc' := 112) rfl ?_
      refine G.iushr B at_112 (pc' := 113) rfl ?_
      refine G.iconst B at_113 (z := (1 : Int32)) rfl (pc' := 114) rfl ?_
      refine G.iand B at_114 (pc' := 115) rfl ?_
      refine G.iadd B at_115 (pc' := 116) rfl ?_
      refine G.istore B at_116 (ls' := #[.val (.int p0), .val (.int p1), .val (.int nn), .val (.ref mv), .val (.ref od), .val (.int (ex2 + (((p0.toUInt32 >>> ((2 : Int32) &&& 31).toUInt32).toInt32) &&& (1 : Int32)))), .unset]) rfl (pc' := 118) rfl ?_
      refine G.aload B at_118 (v := (.ref od)) rfl rfl (pc' := 120) rfl ?_
      refine G.iconst B at_120 (z := (2 : Int32)) rfl (pc' := 121) rfl ?_
      refine G.iconst B at_121 (z := (2 : Int32)) rfl (pc' := 122) rfl ?_
      refine G.stI B A_od (i := 2) (by decide) (by omega) (Or.inr hf_od) at_122 (pc' := 123) rfl (fun h8 K8 A8 => ?_)
      replace A_od := A8
      replace hn := Nat.le_trans hn K8.1
      replace hz := Nat.le_trans hz K8.1
      replace A_mv := A_mv.keep K8 (ninS ne_mv_od nin0)
      exact K123 h8 (up f2 2 (bt p0 2)) (up go2 2 (2 : Int32)) (ex2 + (((p0.toUInt32 >>> ((2 : Int32) &&& 31).toUInt32).toInt32) &&& (1 : Int32))) hn hz A_mv A_od (fun j hj => by
          by_cases e : j = 2
          · subst e; simp [up]
          · simp only [up, if_neg e]; exact hv2 j (by omega)) (by rw [show min n 3 = 3 by omega]; show _ = sm p0 2 + bt p0 2; rw [hx2, show min n 2 = 2 by omega]; rfl)
  clear hn hz
  intro h_123 f3 go3 ex3 hn hz A_mv A_od hv3 hx3
  suffices K159 : ∀ (h_159 : Heap) (f4 : Nat → Int32) (go4 : Nat → Int32) (ex4 : Int32), n0 ≤ h_159.size → h0.size ≤ h_159.size → ArI Z h_159 mv .boolean n f4 → ArI Z h_159 od .int n go4 → (∀ j, j < min n 4 → f4 j = bt p0 j) → (ex4 = sm p0 (min n 4)) → Gg0 p l e s m below meth c n0 h0 Z p0 p1  2 12 h_159 (mkF m 159 #[.val (.int p0), .val (.int p1), .val (.int nn), .val (.ref mv), .val (.ref od), .val (.int ex4), .unset] []) by
    refine G.iloadN B at_123 (v := nn) rfl (pc' := 124) rfl ?_
    refine G.iconst B at_124 (z := (3 : Int32)) rfl (pc' := 125) rfl ?_
    refine G.icmp_le B at_125 (by decide) (pcT := 159) (by decide) (pc' := 128) rfl (fun (hc125 : nn.toInt ≤ 3) => ?_) (fun (hc125 : 3 < nn.toInt) => ?_)
    · exact K159 h_123 f3 go3 ex3 hn hz A_mv A_od (fun j hj => hv3 j (by omega)) (by rw [hx3, show min n 3 = min n 4 by omega])
    · refine G.aloadN B at_128 (v := (.ref mv)) rfl rfl (pc' := 129) rfl ?_
      refine G.iconst B at_129 (z := (3 : Int32)) rfl (pc' := 130) rfl ?_
      refine G.iloadN B at_130 (v := p0) rfl (pc' := 131) rfl ?_
      refine G.iconst B at_131 (z := (3 : Int32)) rfl (pc' := 132) rfl ?_
      refine G.iushr B at_132 (pc' := 133) rfl ?_
      refine G.iconst B at_133 (z := (1 : Int32)) rfl (pc' := 134) rfl ?_
      refine G.iand B at_134 (pc' := 135) rfl ?_
      suffices K143 : ∀ (b : Int32), (((((p0.toUInt32 >>> ((3 : Int32) &&& 31).toUInt32).toInt32) &&& (1 : Int32)) = 0 ∧ b = (0 : Int32)) ∨ ((((p0.toUInt32 >>> ((3 : Int32) &&& 31).toUInt32).toInt32) &&& (1 : Int32)) ≠ 0 ∧ b = (1 : Int32))) → Gg0 p l e s m below meth c n0 h0 Z p0 p1  2 12 h_123 (mkF m 143 #[.val (.int p0), .val (.int p1), .val (.int nn), .val (.ref mv), .val (.ref od), .val (.int ex3), .unset] [(.int b), (.int (3 : Int32)), (.ref mv)]) by
        refine G.if_eq B at_135 (by decide) (pcT := 142) (by decide) (pc' := 138) rfl (fun (hc135 : (((p0.toUInt32 >>> ((3 : Int32) &&& 31).toUInt32).toInt32) &&& (1 : Int32)) = 0) => ?_) (fun (hc135 : (((p0.toUInt32 >>> ((3 : Int32) &&& 31).toUInt32).toInt32) &&& (1 : Int32)) ≠ 0) => ?_)
        · refine G.iconst B at_142 (z := (0 : Int32)) rfl (pc' := 143) rfl ?_
          exact K143 (0 : Int32) (Or.inl ⟨hc135, rfl⟩)
        · refine G.iconst B at_138 (z := (1 : Int32)) rfl (pc' := 139) rfl ?_
          refine G.goto B at_139 (by decide) (pc' := 143) (by decide) ?_
          exact K143 (1 : Int32) (Or.inr ⟨hc135, rfl⟩)
      intro b hj143
      refine G.stZ B A_mv (i := 3) (by decide) (by omega) (Or.inr hf_mv) (z := (bt p0 3)) (own_bz (k := 3) hj143) at_143 (pc' := 144) rfl (fun h9 K9 A9 => ?_)
      replace A_mv := A9
      replace hn := Nat.le_trans hn K9.1
      replace hz := Nat.le_trans hz K9.1
      replace A_od := A_od.keep K9 (ninS (Ne.symm ne_mv_od) nin0)
      refine G.iload B at_144 (v := ex3) rfl (pc' := 146) rfl ?_
      refine G.iloadN B at_146 (v := p0) rfl (pc' := 147) rfl ?_
      refine G.iconst B at_147 (z := (3 : Int32)) rfl (pc' := 148) rfl ?_
      refine G.iushr B at_148 (pc' := 149) rfl ?_
      refine G.iconst B at_149 (z := (1 : Int32)) rfl (pc' := 150) rfl ?_
      refine G.iand B at_150 (pc' := 151) rfl ?_
      refine G.iadd B at_151 (pc' := 152) rfl ?_
      refine G.istore B at_152 (ls' := #[.val (.int p0), .val (.int p1), .val (.int nn), .val (.ref mv), .val (.ref od), .val (.int (ex3 + (((p0.toUInt32 >>> ((3 : Int32) &&& 31).toUInt32).toInt32) &&& (1 : Int32)))), .unset]) rfl (pc' := 154) rfl ?_
      refine G.aload B at_154 (v := (.ref od)) rfl rfl (pc' := 156) rfl ?_
      refine G.iconst B at_156 (z := (3 : Int32)) rfl (pc' := 157) rfl ?_
      refine G.iconst B at_157 (z := (3 : Int32)) rfl (pc' := 158) rfl ?_
      refine G.stI B A_od (i := 3) (by decide) (by omega) (Or.inr hf_od) at_158 (pc' := 159) rfl (fun h10 K10 A10 => ?_)
      replace A_od := A10
      replace hn := Nat.le_trans hn K10.1
      replace hz := Nat.le_trans hz K10.1
      replace A_mv := A_mv.keep K10 (ninS ne_mv_od nin0)
      exact K159 h10 (up f3 3 (bt p0 3)) (up go3 3 (3 : Int32)) (ex3 + (((p0.toUInt32 >>> ((3 : Int32) &&& 31).toUInt32).toInt32) &&& (1 : Int32))) hn hz A_mv A_od (fun j hj => by
          by_cases e : j = 3
          · subst e; simp [up]
          · simp only [up, if_neg e]; exact hv3 j (by omega)) (by rw [show min n 4 = 4 by omega]; show _ = sm p0 3 + bt p0 3; rw [hx3, show min n 3 = 3 by omega]; rfl)
  clear hn hz
  intro h_159 f4 go4 ex4 hn hz A_mv A_od hv4 hx4
  suffices K195 : ∀ (h_195 : Heap) (f5 : Nat → Int32) (go5 : Nat → Int32) (ex5 : Int32), n0 ≤ h_195.size → h0.size ≤ h_195.size → ArI Z h_195 mv .boolean n f5 → ArI Z h_195 od .int n go5 → (∀ j, j < min n 5 → f5 j = bt p0 j) → (ex5 = sm p0 (min n 5)) → Gg0 p l e s m below meth c n0 h0 Z p0 p1  2 12 h_195 (mkF m 195 #[.val (.int p0), .val (.int p1), .val (.int nn), .val (.ref mv), .val (.ref od), .val (.int ex5), .unset] []) by
    refine G.iloadN B at_159 (v := nn) rfl (pc' := 160) rfl ?_
    refine G.iconst B at_160 (z := (4 : Int32)) rfl (pc' := 161) rfl ?_
    refine G.icmp_le B at_161 (by decide) (pcT := 195) (by decide) (pc' := 164) rfl (fun (hc161 : nn.toInt ≤ 4) => ?_) (fun (hc161 : 4 < nn.toInt) => ?_)
    · exact K195 h_159 f4 go4 ex4 hn hz A_mv A_od (fun j hj => hv4 j (by omega)) (by rw [hx4, show min n 4 = min n 5 by omega])
    · refine G.aloadN B at_164 (v := (.ref mv)) rfl rfl (pc' := 165) rfl ?_
      refine G.iconst B at_165 (z := (4 : Int32)) rfl (pc' := 166) rfl ?_
      refine G.iloadN B at_166 (v := p0) rfl (pc' := 167) rfl ?_
      refine G.iconst B at_167 (z := (4 : Int32)) rfl (pc' := 168) rfl ?_
      refine G.iushr B at_168 (pc' := 169) rfl ?_
      refine G.iconst B at_169 (z := (1 : Int32)) rfl (pc' := 170) rfl ?_
      refine G.iand B at_170 (pc' := 171) rfl ?_
      suffices K179 : ∀ (b : Int32), (((((p0.toUInt32 >>> ((4 : Int32) &&& 31).toUInt32).toInt32) &&& (1 : Int32)) = 0 ∧ b = (0 : Int32)) ∨ ((((p0.toUInt32 >>> ((4 : Int32) &&& 31).toUInt32).toInt32) &&& (1 : Int32)) ≠ 0 ∧ b = (1 : Int32))) → Gg0 p l e s m below meth c n0 h0 Z p0 p1  2 12 h_159 (mkF m 179 #[.val (.int p0), .val (.int p1), .val (.int nn), .val (.ref mv), .val (.ref od), .val (.int ex4), .unset] [(.int b), (.int (4 : Int32)), (.ref mv)]) by
        refine G.if_eq B at_171 (by decide) (pcT := 178) (by decide) (pc' := 174) rfl (fun (hc171 : (((p0.toUInt32 >>> ((4 : Int32) &&& 31).toUInt32).toInt32) &&& (1 : Int32)) = 0) => ?_) (fun (hc171 : (((p0.toUInt32 >>> ((4 : Int32) &&& 31).toUInt32).toInt32) &&& (1 : Int32)) ≠ 0) => ?_)
        · refine G.iconst B at_178 (z := (0 : Int32)) rfl (pc' := 179) rfl ?_
          exact K179 (0 : Int32) (Or.inl ⟨hc171, rfl⟩)
        · refine G.iconst B at_174 (z := (1 : Int32)) rfl (pc' := 175) rfl ?_
          refine G.goto B at_175 (by decide) (pc' := 179) (by decide) ?_
          exact K179 (1 : Int32) (Or.inr ⟨hc171, rfl⟩)
      intro b hj179
      refine G.stZ B A_mv (i := 4) (by decide) (by omega) (Or.inr hf_mv) (z := (bt p0 4)) (own_bz (k := 4) hj179) at_179 (pc' := 180) rfl (fun h11 K11 A11 => ?_)
      replace A_mv := A11
      replace hn := Nat.le_trans hn K11.1
      replace hz := Nat.le_trans hz K11.1
      replace A_od := A_od.keep K11 (ninS (Ne.symm ne_mv_od) nin0)
      refine G.iload B at_180 (v := ex4) rfl (pc' := 182) rfl ?_
      refine G.iloadN B at_182 (v := p0) rfl (pc' := 183) rfl ?_
      refine G.iconst B at_183 (z := (4 : Int32)) rfl (pc' := 184) rfl ?_
      refine G.iushr B at_184 (pc' := 185) rfl ?_
      refine G.iconst B at_185 (z := (1 : Int32)) rfl (pc' := 186) rfl ?_
      refine G.iand B at_186 (pc' := 187) rfl ?_
      refine G.iadd B at_187 (pc' := 188) rfl ?_
      refine G.istore B at_188 (ls' := #[.val (.int p0), .val (.int p1), .val (.int nn), .val (.ref mv), .val (.ref od), .val (.int (ex4 + (((p0.toUInt32 >>> ((4 : Int32) &&& 31).toUInt32).toInt32) &&& (1 : Int32)))), .unset]) rfl (pc' := 190) rfl ?_
      refine G.aload B at_190 (v := (.ref od)) rfl rfl (pc' := 192) rfl ?_
      refine G.iconst B at_192 (z := (4 : Int32)) rfl (pc' := 193) rfl ?_
      refine G.iconst B at_193 (z := (4 : Int32)) rfl (pc' := 194) rfl ?_
      refine G.stI B A_od (i := 4) (by decide) (by omega) (Or.inr hf_od) at_194 (pc' := 195) rfl (fun h12 K12 A12 => ?_)
      replace A_od := A12
      replace hn := Nat.le_trans hn K12.1
      replace hz := Nat.le_trans hz K12.1
      replace A_mv := A_mv.keep K12 (ninS ne_mv_od nin0)
      exact K195 h12 (up f4 4 (bt p0 4)) (up go4 4 (4 : Int32)) (ex4 + (((p0.toUInt32 >>> ((4 : Int32) &&& 31).toUInt32).toInt32) &&& (1 : Int32))) hn hz A_mv A_od (fun j hj => by
          by_cases e : j = 4
          · subst e; simp [up]
          · simp only [up, if_neg e]; exact hv4 j (by omega)) (by rw [show min n 5 = 5 by omega]; show _ = sm p0 4 + bt p0 4; rw [hx4, show min n 4 = 4 by omega]; rfl)
  clear hn hz
  intro h_195 f5 go5 ex5 hn hz A_mv A_od hv5 hx5
  suffices K231 : ∀ (h_231 : Heap) (f6 : Nat → Int32) (go6 : Nat → Int32) (ex6 : Int32), n0 ≤ h_231.size → h0.size ≤ h_231.size → ArI Z h_231 mv .boolean n f6 → ArI Z h_231 od .int n go6 → (∀ j, j < min n 6 → f6 j = bt p0 j) → (ex6 = sm p0 (min n 6)) → Gg0 p l e s m below meth c n0 h0 Z p0 p1  2 12 h_231 (mkF m 231 #[.val (.int p0), .val (.int p1), .val (.int nn), .val (.ref mv), .val (.ref od), .val (.int ex6), .unset] []) by
    refine G.iloadN B at_195 (v := nn) rfl (pc' := 196) rfl ?_
    refine G.iconst B at_196 (z := (5 : Int32)) rfl (pc' := 197) rfl ?_
    refine G.icmp_le B at_197 (by decide) (pcT := 231) (by decide) (pc' := 200) rfl (fun (hc197 : nn.toInt ≤ 5) => ?_) (fun (hc197 : 5 < nn.toInt) => ?_)
    · exact K231 h_195 f5 go5 ex5 hn hz A_mv A_od (fun j hj => hv5 j (by omega)) (by rw [hx5, show min n 5 = min n 6 by omega])
    · refine G.aloadN B at_200 (v := (.ref mv)) rfl rfl (pc' := 201) rfl ?_
      refine G.iconst B at_201 (z := (5 : Int32)) rfl (pc' := 202) rfl ?_
      refine G.iloadN B at_202 (v := p0) rfl (pc' := 203) rfl ?_
      refine G.iconst B at_203 (z := (5 : Int32)) rfl (pc' := 204) rfl ?_
      refine G.iushr B at_204 (pc' := 205) rfl ?_
      refine G.iconst B at_205 (z := (1 : Int32)) rfl (pc' := 206) rfl ?_
      refine G.iand B at_206 (pc' := 207) rfl ?_
      suffices K215 : ∀ (b : Int32), (((((p0.toUInt32 >>> ((5 : Int32) &&& 31).toUInt32).toInt32) &&& (1 : Int32)) = 0 ∧ b = (0 : Int32)) ∨ ((((p0.toUInt32 >>> ((5 : Int32) &&& 31).toUInt32).toInt32) &&& (1 : Int32)) ≠ 0 ∧ b = (1 : Int32))) → Gg0 p l e s m below meth c n0 h0 Z p0 p1  2 12 h_195 (mkF m 215 #[.val (.int p0), .val (.int p1), .val (.int nn), .val (.ref mv), .val (.ref od), .val (.int ex5), .unset] [(.int b), (.int (5 : Int32)), (.ref mv)]) by
        refine G.if_eq B at_207 (by decide) (pcT := 214) (by decide) (pc' := 210) rfl (fun (hc207 : (((p0.toUInt32 >>> ((5 : Int32) &&& 31).toUInt32).toInt32) &&& (1 : Int32)) = 0) => ?_) (fun (hc207 : (((p0.toUInt32 >>> ((5 : Int32) &&& 31).toUInt32).toInt32) &&& (1 : Int32)) ≠ 0) => ?_)
        · refine G.iconst B at_214 (z := (0 : Int32)) rfl (pc' := 215) rfl ?_
          exact K215 (0 : Int32) (Or.inl ⟨hc207, rfl⟩)
        · refine G.iconst B at_210 (z := (1 : Int32)) rfl (pc' := 211) rfl ?_
          refine G.goto B at_211 (by decide) (pc' := 215) (by decide) ?_
          exact K215 (1 : Int32) (Or.inr ⟨hc207, rfl⟩)
      intro b hj215
      refine G.stZ B A_mv (i := 5) (by decide) (by omega) (Or.inr hf_mv) (z := (bt p0 5)) (own_bz (k := 5) hj215) at_215 (pc' := 216) rfl (fun h13 K13 A13 => ?_)
      replace A_mv := A13
      replace hn := Nat.le_trans hn K13.1
      replace hz := Nat.le_trans hz K13.1
      replace A_od := A_od.keep K13 (ninS (Ne.symm ne_mv_od) nin0)
      refine G.iload B at_216 (v := ex5) rfl (pc' := 218) rfl ?_
      refine G.iloadN B at_218 (v := p0) rfl (pc' := 219) rfl ?_
      refine G.iconst B at_219 (z := (5 : Int32)) rfl (pc' := 220) rfl ?_
      refine G.iushr B at_220 (pc' := 221) rfl ?_
      refine G.iconst B at_221 (z := (1 : Int32)) rfl (pc' := 222) rfl ?_
      refine G.iand B at_222 (pc' := 223) rfl ?_
      refine G.iadd B at_223 (pc' := 224) rfl ?_
      refine G.istore B at_224 (ls' := #[.val (.int p0), .val (.int p1), .val (.int nn), .val (.ref mv), .val (.ref od), .val (.int (ex5 + (((p0.toUInt32 >>> ((5 : Int32) &&& 31).toUInt32).toInt32) &&& (1 : Int32)))), .unset]) rfl (pc' := 226) rfl ?_
      refine G.aload B at_226 (v := (.ref od)) rfl rfl (pc' := 228) rfl ?_
      refine G.iconst B at_228 (z := (5 : Int32)) rfl (pc' := 229) rfl ?_
      refine G.iconst B at_229 (z := (5 : Int32)) rfl (pc' := 230) rfl ?_
      refine G.stI B A_od (i := 5) (by decide) (by omega) (Or.inr hf_od) at_230 (pc' := 231) rfl (fun h14 K14 A14 => ?_)
      replace A_od := A14
      replace hn := Nat.le_trans hn K14.1
      replace hz := Nat.le_trans hz K14.1
      replace A_mv := A_mv.keep K14 (ninS ne_mv_od nin0)
      exact K231 h14 (up f5 5 (bt p0 5)) (up go5 5 (5 : Int32)) (ex5 + (((p0.toUInt32 >>> ((5 : Int32) &&& 31).toUInt32).toInt32) &&& (1 : Int32))) hn hz A_mv A_od (fun j hj => by
          by_cases e : j = 5
          · subst e; simp [up]
          · simp only [up, if_neg e]; exact hv5 j (by omega)) (by rw [show min n 6 = 6 by omega]; show _ = sm p0 5 + bt p0 5; rw [hx5, show min n 5 = 5 by omega]; rfl)
  clear hn hz
  intro h_231 f6 go6 ex6 hn hz A_mv A_od hv6 hx6
  refine G.newO (q := 2) B (hw _ (List.mem_of_getElem? (i := 3) rfl)) (hw _ (List.mem_of_getElem? (i := 4) rfl)) (hw _ (List.mem_of_getElem? (i := 5) rfl)) at_231 (pc' := 234) rfl (by decide) (by decide) (fun h15 a hs_a hf_a K15 _ E15 D15 => ?_)
  have ne_mv_a : mv ≠ a := Nat.ne_of_lt (hs_a ▸ A_mv.lt)
  have ne_od_a : od ≠ a := Nat.ne_of_lt (hs_a ▸ A_od.lt)
  replace hn := Nat.le_trans hn K15.1
  replace hz := Nat.le_trans hz K15.1
  replace A_mv := A_mv.keep K15 nin0
  replace A_od := A_od.keep K15 nin0
  have O_a : O_Re Z h15 a .null .null := ⟨E15, D15 (Or.inr (hw _ (List.mem_of_getElem? (i := 18) rfl))) (ty := (.array .int)) (by decide), D15 (Or.inr (hw _ (List.mem_of_getElem? (i := 20) rfl))) (ty := (.array .boolean)) (by decide)⟩
  show Gg0 p l e s m below meth c n0 h0 Z p0 p1  3 14 h15 (mkF m 234 #[.val (.int p0), .val (.int p1), .val (.int nn), .val (.ref mv), .val (.ref od), .val (.int ex6), .unset] [(.ref a)])
  refine G.dup B at_234 rfl (pc' := 235) rfl ?_
  refine G.aload B at_235 (v := (.ref od)) rfl rfl (pc' := 237) rfl ?_
  refine G.aloadN B at_237 (v := (.ref mv)) rfl rfl (pc' := 238) rfl ?_
  refine G.callC (y := (⟨"com/example/libhybrid/libhybrid/circular/Rearrangement", "<init>", "([I[Z)V"⟩ : MethodName)) (a := a) B rfl (hw _ (List.mem_of_getElem? (i := 6) rfl)) (hw _ (List.mem_of_getElem? (i := 7) rfl)) rfl (rm := ({ frames := 2, cells := 0, slots := 0, locals := 24 } : Room)) (ws' := [a]) (rm1 l Z a0 hw a od mv .null .null _ n0 hn O_a (own_fr B (Or.inr hf_a))) (allS (Or.inr hf_a) all0) (hw _ (List.mem_of_getElem? (i := 8) rfl)) (hw _ (List.mem_of_getElem? (i := 5) rfl)) (by decide) rfl (argsL := [(.ref od), (.ref mv)]) (rest := [(.ref a)]) rfl (lenOf pd_1 rfl) (by decide) (W := 1) (Nat.le_of_eq rfl) (by decide) (by decide) (by decide) at_238 (pc' := 241) rfl ?_
  rintro _ h16 K16 ⟨rfl, O_a⟩
  replace hn := Nat.le_trans hn K16.1
  replace hz := Nat.le_trans hz K16.1
  replace A_mv := A_mv.keep K16 (ninS ne_mv_a nin0)
  replace A_od := A_od.keep K16 (ninS ne_od_a nin0)
  show Gg0 p l e s m below meth c n0 h0 Z p0 p1  3 14 h16 (mkF m 241 #[.val (.int p0), .val (.int p1), .val (.int nn), .val (.ref mv), .val (.ref od), .val (.int ex6), .unset] [(.ref a)])
  refine G.astore B at_241 rfl (ls' := #[.val (.int p0), .val (.int p1), .val (.int nn), .val (.ref mv), .val (.ref od), .val (.int ex6), .val (.ref a)]) rfl (pc' := 243) rfl ?_
  refine G.aload B at_243 (v := (.ref a)) rfl rfl (pc' := 245) rfl ?_
  refine G.callV (y := (⟨"com/example/libhybrid/libhybrid/circular/Rearrangement", "moves", "()I"⟩ : MethodName)) (a := a) B O_a.1 (hw _ (List.mem_of_getElem? (i := 21) rfl)) (hw _ (List.mem_of_getElem? (i := 22) rfl)) (hw _ (List.mem_of_getElem? (i := 24) rfl)) (hw _ (List.mem_of_getElem? (i := 23) rfl)) (rm := ({ frames := 0, cells := 0, slots := 0, locals := 0 } : Room)) (ws' := []) (rm4 l Z a0 hw a (.ref od) mv n f6 _ n0 hn O_a A_mv hn6) (fun x hx => nomatch hx) (hw _ (List.mem_of_getElem? (i := 25) rfl)) (hw _ (List.mem_of_getElem? (i := 5) rfl)) (by decide) rfl (argsL := []) (rest := []) rfl (lenOf pd_2 rfl) (by decide) (W := 0) (Nat.le_of_eq rfl) (by decide) (by decide) (by decide) at_245 (pc' := 248) rfl ?_
  rintro _ _ K17 ⟨z, rfl, rfl, hz1⟩
  show Gg0 p l e s m below meth c n0 h0 Z p0 p1  3 14 h16 (mkF m 248 #[.val (.int p0), .val (.int p1), .val (.int nn), .val (.ref mv), .val (.ref od), .val (.int ex6), .val (.ref a)] [(.int z)])
  refine G.iload B at_248 (v := ex6) rfl (pc' := 250) rfl ?_
  have hc250 : z = ex6 := by rw [hz1, hx6, show min n 6 = n by omega]; exact own_cs p0 f6 n (fun j hj => hv6 j (by omega))
  refine G.icmp_ne B at_250 (by decide) (pcT := 257) (by decide) (pc' := 253) rfl (fun q => absurd hc250 q) (fun _ => ?_)
  refine G.iconst B at_253 (z := (1 : Int32)) rfl (pc' := 254) rfl ?_
  refine G.goto B at_254 (by decide) (pc' := 258) (by decide) ?_
  exact G.retZ B at_258 (by decide) (by decide) (Or.inr rfl) rfl
set_option maxRecDepth 65536 in
set_option maxHeartbeats 40000000 in
theorem comes_1 {Post : Tables → Env → Array Value → State → Outcome → State → Prop} (hpost : ∀ tb e args s v u, (limb_1_1.after args s (.returned v) u = true ∧ limb_1_2.after args s (.returned v) u = true ∧ True) → FrameEnd s (.returned v) u (Jvm.fieldLocs frame_1_writes args s ++ Jvm.arrayLocs frame_1_arrays args s ++ Jvm.staticLocs frame_1_statics s) 16 128 → Post tb e args s (.returned v) u) :
    ArmFor flags0 classFile x code maxLocals ret World_1 tables_1 room_1 Calls_1 rest_1 Pre_1 Post := by
  intro l hfl _ _ p e ha hc hk s m args below hf hA hF happ hP
  obtain ⟨hcalls, hrest, hpre⟩ := hP
  obtain ⟨-, -, -, hnamed, -, -, -, hat⟩ := (Spec.applies_iff hf).mp happ
  obtain ⟨hg, hn⟩ := and_e (Cond.before_iff.mp (show (Jvm.Cond.and given_1 narrow_1).before args s = true from hpre))
  obtain ⟨hq0, hg0⟩ := and_e hg
  obtain ⟨hq1, hg1⟩ := and_e hg0
  obtain ⟨w0, w1, rfl⟩ : ∃ w0 w1 : Value, args = #[w0, w1] := by
    have hs : args.size = 2 := by simpa [Cond.value, given_1] using hq0
    obtain ⟨L⟩ := args
    match L, hs with
    | [w0, w1], _ => exact ⟨w0, w1, rfl⟩
  have hw := fun d (hd : d ∈ tables_1) => atoms_spec (ws := Jvm.Cond.code x code maxLocals ret :: tables_1) hat d (List.mem_cons_of_mem _ hd)
  obtain ⟨i0, e0⟩ := is_v hq1
  obtain rfl : w0 = (.int i0) := Option.some.inj e0
  obtain ⟨i1, e1⟩ := is_v hg1
  obtain rfl : w1 = (.int i1) := Option.some.inj e1
  obtain ⟨n, o, h1, h2, h3, _, L, rfl, ⟨N, -, _, rfl, rfl⟩, hq⟩ := rm0 l s _ hw i0 i1 s.heap s.heap.size (Nat.le_refl _) p e ha hc hk s m _ below hf ((Spec.applies_iff_loose hf).mp happ).1 ⟨rfl, State.Warmed39.refl s, rfl⟩ trivial
  refine ⟨n, _, h1, h2, h3, hpost _ _ _ _ _ _ ⟨Cond.after_iff.mpr rfl, Cond.after_iff.mpr (eq_i res_at (Term.int_eval (1)) rfl), trivial⟩ ⟨hq.1, hq.2.1, (hq.2.2.sift fun y hy => Or.inr (N y hy)).mono (by decide) (by decide)⟩⟩
theorem main_1_1 : Claimed_1_1 := comes_1 fun _ _ _ _ _ _ h hF => ⟨h.1, hF⟩
theorem main_1_2 : Claimed_1_2 := comes_1 fun _ _ _ _ _ _ h hF => ⟨h.2.1, hF⟩
end Jvm.Pilot.@@N@@
namespace Jvm.Pilot.@@N@@
open Jvm Jvm.ClassFile Sem Op Lib Jvm.Free Jvm.Stand Jvm.Pilot.@@N@@.Jvm.D
/-! MADE BY PROGRAM (witnessworld.py) out of the Statement's table words and the real class files: 12 classes; the members and pool entries that the words name. The judged class is class 1, her method 1. -/
namespace start1
open Jvm.ClassFile
def u (s : String) : CpInfo := .utf8 (stringToUtf16 s)
/-- a pool by its gaps: so many unusable entries, then the entry; so many at the end -/
def gap : Nat → List CpInfo → List CpInfo
  | 0, r => r
  | n + 1, r => .unusable :: gap n r
def poolList (es : List (Nat × CpInfo)) (last : Nat) : List CpInfo := es.foldr (fun e r => gap e.1 (e.2 :: r)) (gap last [])
def pool (es : List (Nat × CpInfo)) (last : Nat) : Array CpInfo := ⟨poolList es last⟩
def fileOf (pool : Array CpInfo) (this : Nat) (attrs : Array Attribute := #[]) (ms : Array MethodInfo := #[]) (fl : Nat := 33) (sup : Nat := 0) (ifs : Array Nat := #[]) (fds : Array FieldInfo := #[]) : ClassFile where
  minorVersion := 0
  majorVersion := 65
  constantPool := pool
  accessFlags := fl
  thisClass := this
  superClass := sup
  interfaces := ifs
  fields := fds
  methods := ms
  attributes := attrs
def plain (name : String) (sup : Option ClassId) : Class where
  name := name
  kind := .ordinary
  loader := none
  accessFlags := 33
  super := sup
  interfaces := #[]
  cf := none
  fields := #[]
  methods := #[]
  instanceTypes := #[]
  staticTypes := #[]
  resolved := #[]
  callSites := []
  init := .initialized
  statics := none
  mirror := none

def pool0 : Array CpInfo := pool [(5, u "<init>"), (0, u "()V"), (1, .class_ 10), (1, u "java/lang/Object")] 113

def k0c0 : Code := { maxStack := 0, maxLocals := 1, code := object_method_1_code, exceptionTable := #[], attributes := #[] }
def k0m0 : Method := { name := "<init>", desc := "()V", sig := { parameters := [], returnType := none }, accessFlags := 1, code := some k0c0 }
/-- java/lang/Object -/
def k0 : Class := { plain "java/lang/Object" none with
  accessFlags := 33
  interfaces := #[]
  cf := some (fileOf pool0 8 #[] #[{ accessFlags := 1, nameIndex := 5, descriptorIndex := 6, attributes := #[] }] 33 0 #[] #[])
  fields := #[]
  methods := #[k0m0]
  instanceTypes := #[]
  staticTypes := #[]
  resolved := Array.replicate 124 none
  statics := none }

def pool1 : Array CpInfo := pool [(2, .class_ 4), (1, u "java/lang/Object"), (0, u "<init>"), (0, u "()V"), (0, .integer 2147483647), (0, .class_ 9), (0, u "com/example/libhybrid/libhybrid/circular/Rearrangement"), (0, .methodref 8 11), (0, .nameAndType 5 12), (0, u "([I[Z)V"), (0, .methodref 8 14), (0, .nameAndType 15 16), (0, u "moves"), (0, u "()I"), (0, .class_ 18), (0, u "com/example/libhybrid/libhybrid/circular/RearrangementMovesPinLaw"), (2, u "law"), (0, u "(II)Z")] 7

def k1m0 : Method := { name := "<init>", desc := "()V", sig := { parameters := [], returnType := none }, accessFlags := 1, code := none }
def k1c1 : Code := { maxStack := 4, maxLocals := 7, code := code, exceptionTable := #[], attributes := #[] }
def k1m1 : Method := { name := "law", desc := "(II)Z", sig := { parameters := [.int, .int], returnType := some .boolean }, accessFlags := 9, code := some k1c1 }
/-- com/example/libhybrid/libhybrid/circular/RearrangementMovesPinLaw -/
def k1 : Class := { plain "com/example/libhybrid/libhybrid/circular/RearrangementMovesPinLaw" (some 0) with
  accessFlags := 49
  interfaces := #[]
  cf := some (fileOf pool1 17 #[] #[{ accessFlags := 1, nameIndex := 5, descriptorIndex := 6, attributes := #[] }, { accessFlags := 9, nameIndex := 21, descriptorIndex := 22, attributes := #[] }] 49 2 #[] #[])
  fields := #[]
  methods := #[k1m0, k1m1]
  instanceTypes := #[]
  staticTypes := #[]
  resolved := Array.replicate 30 none
  statics := none }

def pool2 : Array CpInfo := pool [(1, .methodref 2 3), (0, .class_ 4), (0, .nameAndType 5 6), (0, u "java/lang/Object"), (0, u "<init>"), (0, u "()V"), (0, .class_ 8), (0, u "java/lang/Record")] 13

def k2c0 : Code := { maxStack := 1, maxLocals := 1, code := jdk_30_method_1_code, exceptionTable := #[], attributes := #[] }
def k2m0 : Method := { name := "<init>", desc := "()V", sig := { parameters := [], returnType := none }, accessFlags := 4, code := some k2c0 }
/-- java/lang/Record -/
def k2 : Class := { plain "java/lang/Record" (some 0) with
  accessFlags := 1057
  interfaces := #[]
  cf := some (fileOf pool2 7 #[] #[{ accessFlags := 4, nameIndex := 5, descriptorIndex := 6, attributes := #[] }] 1057 2 #[] #[])
  fields := #[]
  methods := #[k2m0]
  instanceTypes := #[]
  staticTypes := #[]
  resolved := Array.replicate 22 none
  statics := none }

def pool3 : Array CpInfo := pool [(1, .methodref 2 3), (0, .class_ 4), (0, .nameAndType 5 6), (0, u "java/lang/Record"), (0, u "<init>"), (0, u "()V"), (0, .fieldref 8 9), (0, .class_ 10), (0, .nameAndType 11 12), (0, u "com/example/libhybrid/libhybrid/circular/Rearrangement"), (0, u "order"), (0, u "[I"), (0, .fieldref 8 14), (0, .nameAndType 15 16), (0, u "moved"), (0, u "[Z"), (12, u "([I[Z)V"), (3, u "moves"), (0, u "()I")] 27

def k3c0 : Code := { maxStack := 2, maxLocals := 3, code := prog_33_method_1_code, exceptionTable := #[], attributes := #[] }
def k3m0 : Method := { name := "<init>", desc := "([I[Z)V", sig := { parameters := [(.array .int), (.array .boolean)], returnType := none }, accessFlags := 0, code := some k3c0 }
def k3c1 : Code := { maxStack := 2, maxLocals := 6, code := prog_33_method_2_code, exceptionTable := #[], attributes := #[] }
def k3m1 : Method := { name := "moves", desc := "()I", sig := { parameters := [], returnType := some .int }, accessFlags := 0, code := some k3c1 }
/-- com/example/libhybrid/libhybrid/circular/Rearrangement -/
def k3 : Class := { plain "com/example/libhybrid/libhybrid/circular/Rearrangement" (some 2) with
  accessFlags := 48
  interfaces := #[]
  cf := some (fileOf pool3 8 #[] #[{ accessFlags := 0, nameIndex := 5, descriptorIndex := 29, attributes := #[] }, { accessFlags := 0, nameIndex := 33, descriptorIndex := 34, attributes := #[] }] 48 2 #[] #[{ accessFlags := 18, nameIndex := 11, descriptorIndex := 12, attributes := #[] }, { accessFlags := 18, nameIndex := 15, descriptorIndex := 16, attributes := #[] }])
  fields := #[{ name := "order", type := (.array .int), accessFlags := 18, slot := 0, constantValue := 0 }, { name := "moved", type := (.array .boolean), accessFlags := 18, slot := 1, constantValue := 0 }]
  methods := #[k3m0, k3m1]
  instanceTypes := #[(.array .int), (.array .boolean)]
  staticTypes := #[]
  resolved := Array.replicate 62 none
  statics := none }

def pool4 : Array CpInfo := pool [(1, u "java/lang/Cloneable"), (0, .class_ 1), (0, u "java/lang/Object"), (0, .class_ 3)] 3

/-- java/lang/Cloneable -/
def k4 : Class := { plain "java/lang/Cloneable" (some 0) with
  accessFlags := 1537
  interfaces := #[]
  cf := some (fileOf pool4 2 #[] #[] 1537 4 #[] #[])
  fields := #[]
  methods := #[]
  instanceTypes := #[]
  staticTypes := #[]
  resolved := Array.replicate 8 none
  statics := none }

def pool5 : Array CpInfo := pool [(1, u "java/io/Serializable"), (0, .class_ 1), (0, u "java/lang/Object"), (0, .class_ 3)] 3

/-- java/io/Serializable -/
def k5 : Class := { plain "java/io/Serializable" (some 0) with
  accessFlags := 1537
  interfaces := #[]
  cf := some (fileOf pool5 2 #[] #[] 1537 4 #[] #[])
  fields := #[]
  methods := #[]
  instanceTypes := #[]
  staticTypes := #[]
  resolved := Array.replicate 8 none
  statics := none }

/-- the primitive boolean -/
def k6 : Class := { plain "boolean" none with kind := .primitive 'Z', accessFlags := 0x411 }
/-- [Z -/
def k7 : Class := { plain "[Z" (some 0) with kind := .array 6 .boolean, interfaces := #[4, 5], accessFlags := 1041 }

/-- the primitive byte -/
def k8 : Class := { plain "byte" none with kind := .primitive 'B', accessFlags := 0x411 }
/-- [B -/
def k9 : Class := { plain "[B" (some 0) with kind := .array 8 .byte, interfaces := #[4, 5], accessFlags := 1041 }

/-- the primitive int -/
def k10 : Class := { plain "int" none with kind := .primitive 'I', accessFlags := 0x411 }
/-- [I -/
def k11 : Class := { plain "[I" (some 0) with kind := .array 10 .int, interfaces := #[4, 5], accessFlags := 1041 }

def heap : Heap := #[]
def classes : Array Class := #[k0, k1, k2, k3, k4, k5, k6, k7, k8, k9, k10, k11]
def interned : List (Array UInt16 × Addr) := []
def slotsUsed : Nat := 0
def theMethod : MethodId := ⟨1, 1⟩
def args0 : Array Value := #[.int 5, .int 7]
def aboutOver (below : List Frame) : State where
  vm := { classes := classes, interned := interned.toArray }
  heap := heap
  slotsUsed := slotsUsed
  threads := #[{ frames := .invoking theMethod args0 :: below }]
def below0 : List Frame := [.native { method := ⟨0, 0⟩, args := #[] }]
def about1 : State := aboutOver below0
def p0 : Program := .bare "" "" ""
def e0 : Env := launch0.env 0 0 0
theorem w_frames : about1.frames = Frame.invoking theMethod args0 :: below0 := rfl
set_option maxRecDepth 65536 in
theorem w_args : argsFit about1.vm theMethod args0 = true := by decide +kernel
set_option maxRecDepth 65536 in
theorem w_heap : heapFits about1 = true := by decide +kernel
set_option maxRecDepth 65536 in
theorem w_runnable : about1.curStatus? = some .runnable := by decide +kernel
set_option maxRecDepth 65536 in
theorem w_alone : about1.alone = true := by decide +kernel
set_option maxRecDepth 65536 in
theorem w_named : about1.methodNamed? x = some theMethod := by decide +kernel
set_option maxRecDepth 65536 in
theorem w_hears : about1.hears theMethod below0 = true := by decide +kernel
set_option maxRecDepth 65536 in
theorem w_ripe : about1.ripe theMethod args0 below0 = true := by decide +kernel
theorem w_running : about1.status = .running := rfl
set_option maxRecDepth 65536 in
theorem w_room : about1.hasRoom e0.platform room_1 = true :=
  launch0.hasRoom_least _ room_1 (by decide +kernel) (by decide +kernel) (by decide +kernel) (by decide +kernel) (by decide +kernel) (by decide +kernel)
theorem allAtoms_all (ts : List Jvm.Cond) (a : Array Jvm.Value) (st : Jvm.State) : (allAtoms ts).before a st = ts.all (fun c => c.before a st) := by
  induction ts with
  | nil => rfl
  | cons c t ih =>
    show (Jvm.Cond.and c (allAtoms t)).before a st = _
    rw [Jvm.Cond.before_and, ih, List.all_cons]
def words1 : List Jvm.Cond := Jvm.Cond.code x code maxLocals ret :: tables_1
/-- a 'code' word, met by the world's own term for the bytes: nothing is compared byte by byte -/
theorem code_word {y : MethodName} {bytes : ByteArray} {mx : Nat} {rt : Option FieldType} {a : Array Value} {s : State} {m : MethodId} {meth : Method} {c : Code} (h1 : s.methodNamed? y = some m) (h2 : s.vm.method? m = some meth) (h3 : meth.code = some c) (h4 : c.code = bytes)
    (h5 : (c.maxLocals == mx && c.exceptionTable.isEmpty && decide (c.maxStack ≤ mostOperands) && decide (meth.sig.returnType = rt) && !meth.locks && decide (parseMethodDescriptor y.desc = some meth.sig)) = true) : (Jvm.Cond.code y bytes mx rt).before a s = true := by
  simp only [Bool.and_eq_true, beq_iff_eq, Bool.not_eq_true', decide_eq_true_eq] at h5
  obtain ⟨⟨⟨⟨⟨g1, g2⟩, g3⟩, g4⟩, g5⟩, g6⟩ := h5
  simp [Cond.before, Cond.holds, Cond.value, h1, h2, h3, h4, g1, g2, g3, g4, g5, g6]
def isCode : Jvm.Cond → Bool
  | .code _ _ _ _ => true
  | _ => false
theorem all_split {L : List Jvm.Cond} {P : Jvm.Cond → Bool} (h1 : L.all (fun c => isCode c || P c) = true) (h2 : ∀ c ∈ L.filter isCode, P c = true) : L.all P = true := by
  refine List.all_eq_true.mpr fun c hc => ?_
  have h := List.all_eq_true.mp h1 c hc
  rcases Bool.eq_false_or_eq_true (isCode c) with hi | hi
  · exact h2 c (List.mem_filter.mpr ⟨hc, hi⟩)
  · simpa [hi] using h
set_option maxRecDepth 65536 in
theorem w_c0 : (Jvm.Cond.code x code maxLocals ret).before args0 about1 = true := code_word (m := ⟨1, 1⟩) (meth := k1m1) (c := k1c1) (by decide +kernel) rfl rfl rfl (by decide +kernel)
set_option maxRecDepth 65536 in
theorem w_c1 : (Jvm.Cond.code ({ cls := "com/example/libhybrid/libhybrid/circular/Rearrangement", name := "<init>", desc := "([I[Z)V" } : Jvm.MethodName) prog_33_method_1_code (3 : Nat) (Option.none : Option Jvm.ClassFile.FieldType)).before args0 about1 = true := code_word (m := ⟨3, 0⟩) (meth := k3m0) (c := k3c0) (by decide +kernel) rfl rfl rfl (by decide +kernel)
set_option maxRecDepth 65536 in
theorem w_c2 : (Jvm.Cond.code ({ cls := "java/lang/Record", name := "<init>", desc := "()V" } : Jvm.MethodName) jdk_30_method_1_code (1 : Nat) (Option.none : Option Jvm.ClassFile.FieldType)).before args0 about1 = true := code_word (m := ⟨2, 0⟩) (meth := k2m0) (c := k2c0) (by decide +kernel) rfl rfl rfl (by decide +kernel)
set_option maxRecDepth 65536 in
theorem w_c3 : (Jvm.Cond.code ({ cls := "java/lang/Object", name := "<init>", desc := "()V" } : Jvm.MethodName) object_method_1_code (1 : Nat) (Option.none : Option Jvm.ClassFile.FieldType)).before args0 about1 = true := code_word (m := ⟨0, 0⟩) (meth := k0m0) (c := k0c0) (by decide +kernel) rfl rfl rfl (by decide +kernel)
set_option maxRecDepth 65536 in
theorem w_c4 : (Jvm.Cond.code ({ cls := "com/example/libhybrid/libhybrid/circular/Rearrangement", name := "moves", desc := "()I" } : Jvm.MethodName) prog_33_method_2_code (6 : Nat) (Option.some Jvm.ClassFile.FieldType.int)).before args0 about1 = true := code_word (m := ⟨3, 1⟩) (meth := k3m1) (c := k3c1) (by decide +kernel) rfl rfl rfl (by decide +kernel)
def codes1 : List Jvm.Cond := [Jvm.Cond.code x code maxLocals ret, Jvm.Cond.code ({ cls := "com/example/libhybrid/libhybrid/circular/Rearrangement", name := "<init>", desc := "([I[Z)V" } : Jvm.MethodName) prog_33_method_1_code (3 : Nat) (Option.none : Option Jvm.ClassFile.FieldType), Jvm.Cond.code ({ cls := "java/lang/Record", name := "<init>", desc := "()V" } : Jvm.MethodName) jdk_30_method_1_code (1 : Nat) (Option.none : Option Jvm.ClassFile.FieldType), Jvm.Cond.code ({ cls := "java/lang/Object", name := "<init>", desc := "()V" } : Jvm.MethodName) object_method_1_code (1 : Nat) (Option.none : Option Jvm.ClassFile.FieldType), Jvm.Cond.code ({ cls := "com/example/libhybrid/libhybrid/circular/Rearrangement", name := "moves", desc := "()I" } : Jvm.MethodName) prog_33_method_2_code (6 : Nat) (Option.some Jvm.ClassFile.FieldType.int)]
set_option maxRecDepth 65536 in
theorem codes_eq : words1.filter isCode = codes1 := rfl
theorem w_codes : ∀ c ∈ words1.filter isCode, c.before args0 about1 = true := by
  rw [codes_eq]
  intro c hc
  simp only [codes1, List.mem_cons, List.not_mem_nil, or_false] at hc
  rcases hc with rfl | rfl | rfl | rfl | rfl
  · exact w_c0
  · exact w_c1
  · exact w_c2
  · exact w_c3
  · exact w_c4
set_option maxRecDepth 65536 in
theorem w_t1 : (words1.take 24).all (fun c => isCode c || c.before args0 about1) = true := by decide +kernel
set_option maxRecDepth 65536 in
theorem w_t2 : (words1.drop 24).all (fun c => isCode c || c.before args0 about1) = true := by decide +kernel
theorem w_tables : (allAtoms (Jvm.Cond.code x code maxLocals ret :: tables_1)).before args0 about1 = true := by
  rw [allAtoms_all]
  show words1.all (fun c => c.before args0 about1) = true
  refine all_split ?_ w_codes
  rw [← List.take_append_drop 24 words1, List.all_append, w_t1, w_t2]
  rfl
set_option maxRecDepth 65536 in
theorem w_case : (Jvm.Cond.and given_1 narrow_1).before args0 about1 = true := by decide +kernel
theorem w_applies : (headSpec (Jvm.Cond.code x code maxLocals ret :: tables_1) room_1).applies x e0.platform about1 = true :=
  (Spec.applies_iff w_frames).mpr ⟨w_running, w_runnable, w_alone, w_named, w_hears, w_ripe, w_room, w_tables⟩
theorem atStart : AtStart classFile x code maxLocals ret World_1 tables_1 room_1 Calls_1 rest_1 Pre_1 launch0 p0 e0 about1 theMethod args0 below0 :=
  ⟨lists_1, trivial, launch0.admits_env _ _ _, launch0.least_env, fairChoices_fair.cas, fairChoices_fair.clock, w_frames, w_args, w_heap, w_applies, trivial, trivial, w_case⟩
end start1
theorem witness_1 : WitnessClaimed_1 := ⟨start1.p0, start1.e0, start1.about1, start1.theMethod, start1.args0, start1.below0, start1.atStart⟩
end Jvm.Pilot.@@N@@
