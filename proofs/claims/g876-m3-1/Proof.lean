import JvmDerived
import JvmDerived.Pilot.@@N@@Statement
import JvmDerived.Pilot.@@N@@Code
set_option linter.unusedVariables false
set_option linter.unusedSimpArgs false
namespace Jvm.RoadKit
open Sem ClassFile Op Lib Jvm.Stand Jvm.Free Jvm.LawKit
section New
variable {p : Program} {l : Launch} {e : Env} {R : Room} {s : State} {m : MethodId} {args : Array Value} {below : List Frame} {meth : Method} {c : Code} {T : State} {locs : List Loc} {cells slots : Nat}
theorem retI (X : Stand p l e R s m args below meth c T locs cells slots) (hx : p.tables.exec = Jvm.exec) {pc : Nat} {Ls : Array Slot} {z : Int32} {rest : List Value} (hret : meth.sig.returnType = some .int) (hd : decode c.code pc = .ok (.ireturn, 1)) {fs : List Frame}
    (hl : ∀ (f : JFrame) (acts : List Action), f.method = m → f.locked = none → f.entered = [] → (doReturn e (T.setTop f) acts (some (.int z))).1 = T.setFrames fs) : Steps p.tables e below (T.setTop (mkF m pc Ls (.int z :: rest))) (T.setFrames fs) := by
  have hm' : T.vm.method? m = some meth := X.method'
  have hn : narrow .int (.int z) = .int z := rfl
  show Steps p.tables e below (T.setTop { method := m, pc := pc, locals := Ls, stack := _ :: rest, locked := none }) _
  jvm_step X.here [X.here.top, hx, hd, hm', hret, hn]
  first | (intro acts; rw [hl _ acts rfl rfl rfl]) | rw [hl _ _ rfl rfl rfl]
  exact Steps.refl _
end New
end Jvm.RoadKit
namespace Jvm.Wp
open Sem ClassFile Op Lib Jvm.Free Jvm.Stand Jvm.LawKit Jvm.RoadKit

/-- a cell of the walk's own small heap: an array (its kind, its values) or an object (its class, its fields: name, descriptor, value) -/
abbrev MC : Type := Sum (FieldType × List Value) (String × List (String × String × Value))
abbrev MH : Type := List (Addr × MC)
def COk (Z : State) (a0 : Array Value) (h : Heap) (a : Addr) : MC → Prop
  | .inl (ty, vs) => ∃ c : Cell, Arr Z h a c ty ∧ c.slots = vs.toArray ∧ vs.length < 2 ^ 31
  | .inr (C, fs) => Exa Z h a C ∧ (fs.map (·.1)).Nodup ∧ ∀ x ∈ fs, Fld Z h a C x.1 x.2.1 x.2.2 ∧ Laid Z a0 C C x.1 x.2.1 ∧ ∃ t, parseFieldDescriptor x.2.1 = some t
def Rel (Z : State) (a0 : Array Value) (n0 : Nat) (H : MH) (h : Heap) : Prop := n0 ≤ h.size ∧ (H.map (·.1)).Nodup ∧ ∀ x ∈ H, n0 ≤ x.1 ∧ COk Z a0 h x.1 x.2

theorem COk.lt {Z : State} {a0 : Array Value} {h : Heap} {a : Addr} {c : MC} (k : COk Z a0 h a c) : a < h.size := by
  cases c with
  | inl q => obtain ⟨ty, vs⟩ := q; obtain ⟨c, A, -⟩ := k; exact A.lt
  | inr q => obtain ⟨C, fs⟩ := q; exact k.1.lt
theorem COk.ext {Z : State} {a0 : Array Value} {h h' : Heap} {a : Addr} {c : MC} (E : Ext h h') (k : COk Z a0 h a c) : COk Z a0 h' a c := by
  cases c with
  | inl q => obtain ⟨ty, vs⟩ := q; obtain ⟨c, A, r⟩ := k; exact ⟨c, A.ext E, r⟩
  | inr q => obtain ⟨C, fs⟩ := q; exact ⟨k.1.ext E, k.2.1, fun x hx => ⟨(k.2.2 x hx).1.ext E, (k.2.2 x hx).2⟩⟩
theorem Rel.ext {Z : State} {a0 : Array Value} {n0 : Nat} {H : MH} {h h' : Heap} (E : Ext h h') (r : Rel Z a0 n0 H h) : Rel Z a0 n0 H h' := ⟨Nat.le_trans r.1 E.1, r.2.1, fun x hx => ⟨(r.2.2 x hx).1, (r.2.2 x hx).2.ext E⟩⟩
theorem Rel.push {Z : State} {a0 : Array Value} {n0 : Nat} {H : MH} {h h' : Heap} {c : MC} (E : Ext h h') (r : Rel Z a0 n0 H h) (k : COk Z a0 h' h.size c) : Rel Z a0 n0 ((h.size, c) :: H) h' := by
  refine ⟨Nat.le_trans r.1 E.1, ?_, fun x hx => ?_⟩
  · rw [List.map_cons, List.nodup_cons]
    refine ⟨fun q => ?_, r.2.1⟩
    obtain ⟨x, hx, e⟩ := List.mem_map.mp q
    have h1 := (r.2.2 x hx).2.lt
    rw [e] at h1
    exact Nat.lt_irrefl _ h1
  · rcases List.mem_cons.mp hx with rfl | q
    · exact ⟨r.1, k⟩
    · exact ⟨(r.2.2 x q).1, (r.2.2 x q).2.ext E⟩
/-- from pc on, with these locals, this stack, this small heap: the method returns, and Q holds of what it returns and of the small heap at the end -/
def WP (l : Launch) (Z : State) (a0 : Array Value) (n0 : Nat) (R : Room) (y : MethodName) (code : ByteArray) (mx : Nat) (ret : Option FieldType) (cells slots pc : Nat) (Ls : List Slot) (st : List Value) (H : MH) (Q : Option Value → MH → Prop) : Prop :=
  ∀ (p : Program) (e : Env) (s : State) (m : MethodId) (args : Array Value) (below : List Frame) (meth : Method) (c : Code) (T : State) (locs : List Loc),
    Stand p l e R s m args below meth c T locs cells slots → p.tables.exec = Jvm.exec → Z.Warmed39 s.vm → c.code = code → c.maxLocals = mx → s.vm.findClass y.cls = some m.cls → meth.name = y.name → meth.sig.returnType = ret → meth.locks = false →
    Fr n0 locs → Rel Z a0 n0 H T.heap → cells ≤ R.cells → slots ≤ R.slots →
    ∃ v H' L s₂, Steps p.tables e below (T.setTop (mkF m pc ⟨Ls⟩ st)) s₂ ∧ s₂.status = .running ∧ Ended s₂ below (.returned v) ∧ Fr n0 L ∧ Rel Z a0 n0 H' s₂.heap ∧ Q v H' ∧ s.WarmedH s₂.vm ∧ s.sameButNew ({ s₂ with vm := s.vm } : State) L R.cells R.slots
/-- a method's contract: called with these arguments over this small heap it returns, and Q holds -/
def Con (l : Launch) (Z : State) (a0 : Array Value) (n0 : Nat) (y : MethodName) (code : ByteArray) (mx : Nat) (ret : Option FieldType) (rm : Room) (as : Array Value) (H : MH) (Q : Option Value → MH → Prop) : Prop :=
  ∀ (ws : List Cond) (h0 : Heap), Rel Z a0 n0 H h0 → MetFree l y (head1 (Cond.code y code mx ret :: ws) rm) (fun a U => a = as ∧ Z.Warmed39 U.vm ∧ U.heap = h0) (fun _ _ _ _ _ => True)
    (fun _ U o U' => ∃ v L, o = .returned v ∧ (Fr n0 L ∧ ∃ H', Rel Z a0 n0 H' U'.heap ∧ Q v H') ∧ FrameEnd U o U' L rm.cells rm.slots)

variable {l : Launch} {Z : State} {a0 : Array Value} {n0 : Nat} {R : Room} {y : MethodName} {code : ByteArray} {mx : Nat} {ret : Option FieldType} {cells slots pc : Nat} {Ls : List Slot} {st : List Value} {H : MH} {Q : Option Value → MH → Prop}

def locsOf : List Value → List Slot
  | [] => []
  | v :: t => if v.category = 2 then .val v :: .second :: locsOf t else .val v :: locsOf t
theorem foldl_locs (l : List Value) : ∀ acc : Array Slot, l.foldl (fun acc v => if v.category = 2 then (acc.push (.val v)).push .second else acc.push (.val v)) acc = acc ++ (locsOf l).toArray := by
  induction l with
  | nil => intro acc; simp [locsOf]
  | cons v t ih =>
    intro acc
    rw [List.foldl_cons, ih, locsOf]
    split <;> simp
theorem efG (m : MethodId) (l : List Value) (mx : Nat) : entryFrame m l.toArray mx = mkF m 0 ⟨locsOf l ++ List.replicate (mx - (locsOf l).length) .unset⟩ [] := by
  have h : argsToLocals l.toArray mx = ⟨locsOf l ++ List.replicate (mx - (locsOf l).length) .unset⟩ := by
    unfold argsToLocals
    rw [show l.toArray.foldl (init := #[]) (fun acc v => if v.category = 2 then (acc.push (.val v)).push .second else acc.push (.val v)) = (locsOf l).toArray by rw [List.foldl_toArray, foldl_locs]; simp]
    apply Array.ext'
    simp
  simp only [entryFrame, mkF, h]
theorem Con.intro {rm : Room} {as : Array Value} (hpn : plainFor y = true) (hE : ∀ m, entryFrame m as mx = mkF m 0 ⟨Ls⟩ []) (h : WP l Z a0 n0 rm y code mx ret 0 0 0 Ls [] H Q) : Con l Z a0 n0 y code mx ret rm as H Q := by
  intro ws h0 hR
  refine MetFree.of_bodySF hpn hisR ?_
  intro p e s m args below meth c s₁ Bd hml0 hP hK
  obtain ⟨rfl, hZ, hh⟩ := hP
  have e0 : s₁.heap = h0 := by rw [← hh, Bd.state]; rfl
  obtain ⟨v, H', L, s2, k1, k2, k3, k4, k5, k6, k7, k8⟩ := h p e s m _ below meth c s₁ [] (Stand.of_body Bd) Bd.exec hZ Bd.bytes hml0 (findClass_of_methodNamed Bd.named) (name_of_methodNamed Bd.named Bd.method).1 Bd.returns Bd.notSynchronized (Fr.nil n0) (by rw [e0]; exact hR) (Nat.zero_le _) (Nat.zero_le _)
  exact ⟨s2, _, castTop (hE m) k1, k2, k3, v, L, rfl, ⟨k4, H', k5, k6⟩, ⟨_, rfl⟩, k7, k8⟩
theorem Con.mono {rm : Room} {as : Array Value} {Q' : Option Value → MH → Prop} (h : Con l Z a0 n0 y code mx ret rm as H Q) (k : ∀ v H', Q v H' → Q' v H') : Con l Z a0 n0 y code mx ret rm as H Q' := by
  intro ws h0 hR p e ha hc hk s m args below hf happ hP hK
  obtain ⟨n, o, q1, q2, q3, v, L, q4, ⟨q5, H', q6, q7⟩, q8⟩ := h ws h0 hR p e ha hc hk s m args below hf happ hP hK
  exact ⟨n, o, q1, q2, q3, v, L, q4, ⟨q5, H', q6, k _ _ q7⟩, q8⟩
theorem WP.mono {Q' : Option Value → MH → Prop} (h : WP l Z a0 n0 R y code mx ret cells slots pc Ls st H Q) (k : ∀ v H', Q v H' → Q' v H') : WP l Z a0 n0 R y code mx ret cells slots pc Ls st H Q' := by
  intro p e s m args below meth c T locs X hx hZ hc hm ho hn hr hl hF hR g1 g2
  obtain ⟨v, H', L, s2, k1, k2, k3, k4, k5, k6, k7⟩ := h p e s m args below meth c T locs X hx hZ hc hm ho hn hr hl hF hR g1 g2
  exact ⟨v, H', L, s2, k1, k2, k3, k4, k5, k _ _ k6, k7⟩

/-- a step that moves the frame alone -/
theorem pure {pc' : Nat} {Ls' : List Slot} {st' : List Value}
    (h : ∀ (p : Program) (e : Env) (m : MethodId) (below : List Frame) (c : Code) (T target : State), At T m c below → p.tables.exec = Jvm.exec → c.code = code → Steps p.tables e below (T.setTop (mkF m pc' ⟨Ls'⟩ st')) target → Steps p.tables e below (T.setTop (mkF m pc ⟨Ls⟩ st)) target)
    (k : WP l Z a0 n0 R y code mx ret cells slots pc' Ls' st' H Q) : WP l Z a0 n0 R y code mx ret cells slots pc Ls st H Q := by
  intro p e s m args below meth c T locs X hx hZ hc hm ho hn hr hl hF hR g1 g2
  obtain ⟨v, H', L, s2, k1, k2⟩ := k p e s m args below meth c T locs X hx hZ hc hm ho hn hr hl hF hR g1 g2
  exact ⟨v, H', L, s2, h p e m below c T s2 X.here hx hc k1, k2⟩
theorem iloadN {k : Fin 4} {v : Int32} {pc' : Nat} (hd : decode code pc = .ok (.iload_n k, 1)) (hl : Ls[k.val]? = some (.val (.int v))) (hp : pc + 1 = pc') (w : WP l Z a0 n0 R y code mx ret cells slots pc' Ls (.int v :: st) H Q) : WP l Z a0 n0 R y code mx ret cells slots pc Ls st H Q := by
  subst hp
  exact pure (fun p e m below c T t h hx hc hs => XS.iloadN h hx rfl (hb hc hd) (by simpa using hl) hs) w
theorem iload {k : Nat} {v : Int32} {pc' : Nat} (hd : decode code pc = .ok (.iload k, 2)) (hl : Ls[k]? = some (.val (.int v))) (hp : pc + 2 = pc') (w : WP l Z a0 n0 R y code mx ret cells slots pc' Ls (.int v :: st) H Q) : WP l Z a0 n0 R y code mx ret cells slots pc Ls st H Q := by
  subst hp
  exact pure (fun p e m below c T t h hx hc hs => XS.iload h hx rfl (hb hc hd) (by simpa using hl) hs) w
theorem lloadN {k : Fin 4} {v : Int64} {pc' : Nat} (hd : decode code pc = .ok (.lload_n k, 1)) (hl : Ls[k.val]? = some (.val (.long v))) (hp : pc + 1 = pc') (w : WP l Z a0 n0 R y code mx ret cells slots pc' Ls (.long v :: st) H Q) : WP l Z a0 n0 R y code mx ret cells slots pc Ls st H Q := by
  subst hp
  exact pure (fun p e m below c T t h hx hc hs => XS.lloadN h hx rfl (hb hc hd) (by simpa using hl) hs) w
theorem lload {k : Nat} {v : Int64} {pc' : Nat} (hd : decode code pc = .ok (.lload k, 2)) (hl : Ls[k]? = some (.val (.long v))) (hp : pc + 2 = pc') (w : WP l Z a0 n0 R y code mx ret cells slots pc' Ls (.long v :: st) H Q) : WP l Z a0 n0 R y code mx ret cells slots pc Ls st H Q := by
  subst hp
  exact pure (fun p e m below c T t h hx hc hs => XS.lload h hx rfl (hb hc hd) (by simpa using hl) hs) w
theorem iconst {i : Int} (n : Int32) {pc' : Nat} (hd : decode code pc = .ok (.iconst i, 1)) (hn : Int32.ofInt i = n) (hp : pc + 1 = pc') (w : WP l Z a0 n0 R y code mx ret cells slots pc' Ls (.int n :: st) H Q) : WP l Z a0 n0 R y code mx ret cells slots pc Ls st H Q := by
  subst hp hn
  exact pure (fun p e m below c T t h hx hc hs => XS.iconst h hx rfl (hb hc hd) hs) w
theorem bipush {i : Int} (n : Int32) {pc' : Nat} (hd : decode code pc = .ok (.bipush i, 2)) (hn : (Int8.ofInt i).toInt32 = n) (hp : pc + 2 = pc') (w : WP l Z a0 n0 R y code mx ret cells slots pc' Ls (.int n :: st) H Q) : WP l Z a0 n0 R y code mx ret cells slots pc Ls st H Q := by
  subst hp hn
  exact pure (fun p e m below c T t h hx hc hs => XS.bipush h hx rfl (hb hc hd) hs) w
theorem sipush {i : Int} (n : Int32) {pc' : Nat} (hd : decode code pc = .ok (.sipush i, 3)) (hn : (Int16.ofInt i).toInt32 = n) (hp : pc + 3 = pc') (w : WP l Z a0 n0 R y code mx ret cells slots pc' Ls (.int n :: st) H Q) : WP l Z a0 n0 R y code mx ret cells slots pc Ls st H Q := by
  subst hp hn
  exact pure (fun p e m below c T t h hx hc hs => XS.sipush h hx rfl (hb hc hd) hs) w
theorem lconst {i : Fin 2} (n : Int64) {pc' : Nat} (hd : decode code pc = .ok (.lconst i, 1)) (hn : Int64.ofNat i = n) (hp : pc + 1 = pc') (w : WP l Z a0 n0 R y code mx ret cells slots pc' Ls (.long n :: st) H Q) : WP l Z a0 n0 R y code mx ret cells slots pc Ls st H Q := by
  subst hp hn
  exact pure (fun p e m below c T t h hx hc hs => XS.lconst h hx rfl (hb hc hd) hs) w
theorem isub {x z : Int32} {pc' : Nat} (hd : decode code pc = .ok (.isub, 1)) (hp : pc + 1 = pc') (w : WP l Z a0 n0 R y code mx ret cells slots pc' Ls (.int (x - z) :: st) H Q) : WP l Z a0 n0 R y code mx ret cells slots pc Ls (.int z :: .int x :: st) H Q := by
  subst hp
  exact pure (fun p e m below c T t h hx hc hs => XS.isub h hx rfl (hb hc hd) rfl hs) w
theorem iand {x z : Int32} {pc' : Nat} (hd : decode code pc = .ok (.iand, 1)) (hp : pc + 1 = pc') (w : WP l Z a0 n0 R y code mx ret cells slots pc' Ls (.int (x &&& z) :: st) H Q) : WP l Z a0 n0 R y code mx ret cells slots pc Ls (.int z :: .int x :: st) H Q := by
  subst hp
  exact pure (fun p e m below c T t h hx hc hs => XS.iand h hx rfl (hb hc hd) rfl hs) w
theorem ior {x z : Int32} {pc' : Nat} (hd : decode code pc = .ok (.ior, 1)) (hp : pc + 1 = pc') (w : WP l Z a0 n0 R y code mx ret cells slots pc' Ls (.int (x ||| z) :: st) H Q) : WP l Z a0 n0 R y code mx ret cells slots pc Ls (.int z :: .int x :: st) H Q := by
  subst hp
  exact pure (fun p e m below c T t h hx hc hs => XS.ior h hx rfl (hb hc hd) rfl hs) w
theorem ixor {x z : Int32} {pc' : Nat} (hd : decode code pc = .ok (.ixor, 1)) (hp : pc + 1 = pc') (w : WP l Z a0 n0 R y code mx ret cells slots pc' Ls (.int (x ^^^ z) :: st) H Q) : WP l Z a0 n0 R y code mx ret cells slots pc Ls (.int z :: .int x :: st) H Q := by
  subst hp
  exact pure (fun p e m below c T t h hx hc hs => XS.ixor h hx rfl (hb hc hd) rfl hs) w
theorem ishl {x z : Int32} {pc' : Nat} (hd : decode code pc = .ok (.ishl, 1)) (hp : pc + 1 = pc') (w : WP l Z a0 n0 R y code mx ret cells slots pc' Ls (.int (x <<< (z &&& 31)) :: st) H Q) : WP l Z a0 n0 R y code mx ret cells slots pc Ls (.int z :: .int x :: st) H Q := by
  subst hp
  exact pure (fun p e m below c T t h hx hc hs => XS.ishl h hx rfl (hb hc hd) rfl hs) w
theorem ishr {x z : Int32} {pc' : Nat} (hd : decode code pc = .ok (.ishr, 1)) (hp : pc + 1 = pc') (w : WP l Z a0 n0 R y code mx ret cells slots pc' Ls (.int (x >>> (z &&& 31)) :: st) H Q) : WP l Z a0 n0 R y code mx ret cells slots pc Ls (.int z :: .int x :: st) H Q := by
  subst hp
  exact pure (fun p e m below c T t h hx hc hs => XS.ishr h hx rfl (hb hc hd) rfl hs) w
theorem iushr {x z : Int32} {pc' : Nat} (hd : decode code pc = .ok (.iushr, 1)) (hp : pc + 1 = pc') (w : WP l Z a0 n0 R y code mx ret cells slots pc' Ls (.int ((x.toUInt32 >>> (z &&& 31).toUInt32).toInt32) :: st) H Q) : WP l Z a0 n0 R y code mx ret cells slots pc Ls (.int z :: .int x :: st) H Q := by
  subst hp
  exact pure (fun p e m below c T t h hx hc hs => XS.iushr h hx rfl (hb hc hd) rfl hs) w
theorem ladd {x z : Int64} {pc' : Nat} (hd : decode code pc = .ok (.ladd, 1)) (hp : pc + 1 = pc') (w : WP l Z a0 n0 R y code mx ret cells slots pc' Ls (.long (x + z) :: st) H Q) : WP l Z a0 n0 R y code mx ret cells slots pc Ls (.long z :: .long x :: st) H Q := by
  subst hp
  exact pure (fun p e m below c T t h hx hc hs => XS.ladd h hx rfl (hb hc hd) rfl hs) w
theorem lshl {x : Int64} {z : Int32} {pc' : Nat} (hd : decode code pc = .ok (.lshl, 1)) (hp : pc + 1 = pc') (w : WP l Z a0 n0 R y code mx ret cells slots pc' Ls (.long (x <<< (z &&& 0x3f).toInt64) :: st) H Q) : WP l Z a0 n0 R y code mx ret cells slots pc Ls (.int z :: .long x :: st) H Q := by
  subst hp
  exact pure (fun p e m below c T t h hx hc hs => XS.lshl h hx rfl (hb hc hd) rfl hs) w
theorem i2l {x : Int32} {pc' : Nat} (hd : decode code pc = .ok (.i2l, 1)) (hp : pc + 1 = pc') (w : WP l Z a0 n0 R y code mx ret cells slots pc' Ls (.long (x.toInt64) :: st) H Q) : WP l Z a0 n0 R y code mx ret cells slots pc Ls (.int x :: st) H Q := by
  subst hp
  exact pure (fun p e m below c T t h hx hc hs => XS.i2l h hx rfl (hb hc hd) rfl hs) w
theorem i2b {x : Int32} {pc' : Nat} (hd : decode code pc = .ok (.i2b, 1)) (hp : pc + 1 = pc') (w : WP l Z a0 n0 R y code mx ret cells slots pc' Ls (.int (x.toInt8.toInt32) :: st) H Q) : WP l Z a0 n0 R y code mx ret cells slots pc Ls (.int x :: st) H Q := by
  subst hp
  exact pure (fun p e m below c T t h hx hc hs => XS.i2b h hx rfl (hb hc hd) rfl hs) w
theorem lcmp {x z : Int64} {pc' : Nat} (hd : decode code pc = .ok (.lcmp, 1)) (hp : pc + 1 = pc') (w : WP l Z a0 n0 R y code mx ret cells slots pc' Ls (.int (lcmpW x z) :: st) H Q) : WP l Z a0 n0 R y code mx ret cells slots pc Ls (.long z :: .long x :: st) H Q := by
  subst hp
  exact pure (fun p e m below c T t h hx hc hs => XS.lcmp h hx rfl (hb hc hd) rfl hs) w
theorem goto {o : Int} {pc' : Nat} (hd : decode code pc = .ok (.goto o, 3)) (hp : (pc : Int) + o = (pc' : Int)) (w : WP l Z a0 n0 R y code mx ret cells slots pc' Ls st H Q) : WP l Z a0 n0 R y code mx ret cells slots pc Ls st H Q :=
  pure (fun p e m below c T t h hx hc hs => XS.goto h hx rfl (pc0 := pc) (pc' := pc') rfl (hb hc hd) (by omega) (by omega) hs) w
theorem hI_lt {x z : Int32} : (if_icmp.holds .lt x z = true → x.toInt < z.toInt) ∧ (if_icmp.holds .lt x z = false → z.toInt ≤ x.toInt) := by
  constructor <;> intro hq <;> simp [if_icmp.holds, Int32.lt_iff_toInt_lt, Int32.le_iff_toInt_le] at hq ⊢ <;> first | omega | exact hq | simp_all
theorem icmp_lt {x z : Int32} {o : Int} {pt pf : Nat} (hd : decode code pc = .ok (.if_icmp .lt o, 3)) (hp : (pc : Int) + o = (pt : Int)) (hq : pc + 3 = pf) (wt : x.toInt < z.toInt → WP l Z a0 n0 R y code mx ret cells slots pt Ls st H Q) (wf : z.toInt ≤ x.toInt → WP l Z a0 n0 R y code mx ret cells slots pf Ls st H Q) : WP l Z a0 n0 R y code mx ret cells slots pc Ls (.int z :: .int x :: st) H Q := by
  subst hq
  cases hh : if_icmp.holds .lt x z
  · exact pure (fun p e m below c T t h hx hc hs => XS.icmpNo h hx rfl (hb hc hd) rfl hh hs) (wf (hI_lt.2 hh))
  · exact pure (fun p e m below c T t h hx hc hs => XS.icmpYes h hx rfl (pc0 := pc) (pc' := pt) rfl (hb hc hd) rfl hh (by omega) (by omega) hs) (wt (hI_lt.1 hh))
theorem hI_gt {x z : Int32} : (if_icmp.holds .gt x z = true → z.toInt < x.toInt) ∧ (if_icmp.holds .gt x z = false → x.toInt ≤ z.toInt) := by
  constructor <;> intro hq <;> simp [if_icmp.holds, Int32.lt_iff_toInt_lt, Int32.le_iff_toInt_le] at hq ⊢ <;> first | omega | exact hq | simp_all
theorem icmp_gt {x z : Int32} {o : Int} {pt pf : Nat} (hd : decode code pc = .ok (.if_icmp .gt o, 3)) (hp : (pc : Int) + o = (pt : Int)) (hq : pc + 3 = pf) (wt : z.toInt < x.toInt → WP l Z a0 n0 R y code mx ret cells slots pt Ls st H Q) (wf : x.toInt ≤ z.toInt → WP l Z a0 n0 R y code mx ret cells slots pf Ls st H Q) : WP l Z a0 n0 R y code mx ret cells slots pc Ls (.int z :: .int x :: st) H Q := by
  subst hq
  cases hh : if_icmp.holds .gt x z
  · exact pure (fun p e m below c T t h hx hc hs => XS.icmpNo h hx rfl (hb hc hd) rfl hh hs) (wf (hI_gt.2 hh))
  · exact pure (fun p e m below c T t h hx hc hs => XS.icmpYes h hx rfl (pc0 := pc) (pc' := pt) rfl (hb hc hd) rfl hh (by omega) (by omega) hs) (wt (hI_gt.1 hh))
theorem hI_eq {x z : Int32} : (if_icmp.holds .eq x z = true → x = z) ∧ (if_icmp.holds .eq x z = false → ¬ x = z) := by
  constructor <;> intro hq <;> simp [if_icmp.holds, Int32.lt_iff_toInt_lt, Int32.le_iff_toInt_le] at hq ⊢ <;> first | omega | exact hq | simp_all
theorem hZ_eq {x : Int32} : (ifCond.holds .eq x = true → x = 0) ∧ (ifCond.holds .eq x = false → ¬ x = 0) := by
  rw [if0]
  exact hI_eq (z := 0)
theorem if_eq {x : Int32} {o : Int} {pt pf : Nat} (hd : decode code pc = .ok (.ifCond .eq o, 3)) (hp : (pc : Int) + o = (pt : Int)) (hq : pc + 3 = pf) (wt : x = 0 → WP l Z a0 n0 R y code mx ret cells slots pt Ls st H Q) (wf : ¬ x = 0 → WP l Z a0 n0 R y code mx ret cells slots pf Ls st H Q) : WP l Z a0 n0 R y code mx ret cells slots pc Ls (.int x :: st) H Q := by
  subst hq
  cases hh : ifCond.holds .eq x
  · exact pure (fun p e m below c T t h hx hc hs => XS.ifNo h hx rfl (hb hc hd) rfl hh hs) (wf (hZ_eq.2 hh))
  · exact pure (fun p e m below c T t h hx hc hs => XS.ifYes h hx rfl (pc0 := pc) (pc' := pt) rfl (hb hc hd) rfl hh (by omega) (by omega) hs) (wt (hZ_eq.1 hh))
theorem hI_ne {x z : Int32} : (if_icmp.holds .ne x z = true → ¬ x = z) ∧ (if_icmp.holds .ne x z = false → x = z) := by
  constructor <;> intro hq <;> simp [if_icmp.holds, Int32.lt_iff_toInt_lt, Int32.le_iff_toInt_le] at hq ⊢ <;> first | omega | exact hq | simp_all
theorem icmp_ne {x z : Int32} {o : Int} {pt pf : Nat} (hd : decode code pc = .ok (.if_icmp .ne o, 3)) (hp : (pc : Int) + o = (pt : Int)) (hq : pc + 3 = pf) (wt : ¬ x = z → WP l Z a0 n0 R y code mx ret cells slots pt Ls st H Q) (wf : x = z → WP l Z a0 n0 R y code mx ret cells slots pf Ls st H Q) : WP l Z a0 n0 R y code mx ret cells slots pc Ls (.int z :: .int x :: st) H Q := by
  subst hq
  cases hh : if_icmp.holds .ne x z
  · exact pure (fun p e m below c T t h hx hc hs => XS.icmpNo h hx rfl (hb hc hd) rfl hh hs) (wf (hI_ne.2 hh))
  · exact pure (fun p e m below c T t h hx hc hs => XS.icmpYes h hx rfl (pc0 := pc) (pc' := pt) rfl (hb hc hd) rfl hh (by omega) (by omega) hs) (wt (hI_ne.1 hh))
theorem hZ_ne {x : Int32} : (ifCond.holds .ne x = true → ¬ x = 0) ∧ (ifCond.holds .ne x = false → x = 0) := by
  rw [if0]
  exact hI_ne (z := 0)
theorem if_ne {x : Int32} {o : Int} {pt pf : Nat} (hd : decode code pc = .ok (.ifCond .ne o, 3)) (hp : (pc : Int) + o = (pt : Int)) (hq : pc + 3 = pf) (wt : ¬ x = 0 → WP l Z a0 n0 R y code mx ret cells slots pt Ls st H Q) (wf : x = 0 → WP l Z a0 n0 R y code mx ret cells slots pf Ls st H Q) : WP l Z a0 n0 R y code mx ret cells slots pc Ls (.int x :: st) H Q := by
  subst hq
  cases hh : ifCond.holds .ne x
  · exact pure (fun p e m below c T t h hx hc hs => XS.ifNo h hx rfl (hb hc hd) rfl hh hs) (wf (hZ_ne.2 hh))
  · exact pure (fun p e m below c T t h hx hc hs => XS.ifYes h hx rfl (pc0 := pc) (pc' := pt) rfl (hb hc hd) rfl hh (by omega) (by omega) hs) (wt (hZ_ne.1 hh))
theorem lcmp_ne {x z : Int64} {o : Int} {pt pf p1 : Nat} (hd : decode code pc = .ok (.lcmp, 1)) (h1 : pc + 1 = p1) (he : decode code p1 = .ok (.ifCond .ne o, 3)) (hp : (p1 : Int) + o = (pt : Int)) (hq : p1 + 3 = pf) (wt : ¬ x = z → WP l Z a0 n0 R y code mx ret cells slots pt Ls st H Q) (wf : x = z → WP l Z a0 n0 R y code mx ret cells slots pf Ls st H Q) : WP l Z a0 n0 R y code mx ret cells slots pc Ls (.long z :: .long x :: st) H Q :=
  lcmp hd h1 (if_ne he hp hq (fun q => wt (fun e => q ((lw_eq x z).mpr e))) fun q => wf ((lw_eq x z).mp q))
def ok1 : Slot → Bool
  | .unset => true
  | .val v => v.category == 1
  | .second => false
def ok2 : Slot → Slot → Bool
  | .val (.long _), .second => true
  | a, b => ok1 a && ok1 b
theorem stl1 (pre : List Slot) {o : Slot} {t : List Slot} {v : Value} (ho : ok1 o = true) (hv : v.category = 1) : storeLocals ⟨pre ++ o :: t⟩ pre.length v = some ⟨pre ++ .val v :: t⟩ := by
  have hg : (⟨pre ++ o :: t⟩ : Array Slot)[pre.length]? = some o := by simp
  have hs : storeSelf (⟨pre ++ o :: t⟩ : Array Slot) pre.length v = some ⟨pre ++ .val v :: t⟩ := by
    simp [storeSelf, setAt, hv, Array.setIfInBounds]
  cases o with
  | unset => simp only [storeLocals, hg]; exact hs
  | second => cases ho
  | val w =>
    have hw : ¬ w.category = 2 := by simp only [ok1, beq_iff_eq] at ho; omega
    simp only [storeLocals, hg]
    show (if w.category = 2 then _ else _) = _
    rw [if_neg hw]; exact hs
theorem stl2 (pre : List Slot) {o o' : Slot} {t : List Slot} {x : Int64} (ho : ok2 o o' = true) : storeLocals ⟨pre ++ o :: o' :: t⟩ pre.length (.long x) = some ⟨pre ++ .val (.long x) :: .second :: t⟩ := by
  have hg : (⟨pre ++ o :: o' :: t⟩ : Array Slot)[pre.length]? = some o := by simp
  have hs : ∀ q : Slot, (∀ w, q = .val w → w.category = 1) → storeSelf (⟨pre ++ o :: q :: t⟩ : Array Slot) pre.length (.long x) = some ⟨pre ++ .val (.long x) :: .second :: t⟩ := by
    intro q hq
    have e1 : setAt (⟨pre ++ o :: q :: t⟩ : Array Slot) pre.length (.val (.long x)) = some ⟨pre ++ .val (.long x) :: q :: t⟩ := by simp [setAt, Array.setIfInBounds]
    have e2 : (⟨pre ++ .val (.long x) :: q :: t⟩ : Array Slot)[pre.length + 1]? = some q := by simp
    have e3 : setAt (⟨pre ++ .val (.long x) :: q :: t⟩ : Array Slot) (pre.length + 1) .second = some ⟨pre ++ .val (.long x) :: .second :: t⟩ := by
      simp [setAt, Array.setIfInBounds]
    cases q with
    | unset => simp only [storeSelf, e1]; simp [Value.category, e2, e3]
    | second => simp only [storeSelf, e1]; simp [Value.category, e2, e3]
    | val w =>
      have hw1 : w.category = 1 := hq w rfl
      cases w <;> first | (simp [Value.category] at hw1; done) | (simp only [storeSelf, e1]; simp [Value.category, e2, e3])
  have hl : ∀ w : Value, ok1 (.val w) = true → w.category = 1 := fun w h => by simpa [ok1] using h
  have main : ∀ {o o' : Slot}, ok1 o = true → ok1 o' = true → (∀ q : Slot, (∀ w, q = .val w → w.category = 1) → storeSelf (⟨pre ++ o :: q :: t⟩ : Array Slot) pre.length (.long x) = some ⟨pre ++ .val (.long x) :: .second :: t⟩) → storeLocals ⟨pre ++ o :: o' :: t⟩ pre.length (.long x) = some ⟨pre ++ .val (.long x) :: .second :: t⟩ := by
    intro o o' h1 h2 hs
    have hg : (⟨pre ++ o :: o' :: t⟩ : Array Slot)[pre.length]? = some o := by simp
    have h3 := hs o' fun w e => hl w (by rw [← e]; exact h2)
    cases o with
    | unset => simp only [storeLocals, hg]; exact h3
    | second => cases h1
    | val w =>
      have hw : ¬ w.category = 2 := by have := hl w h1; omega
      simp only [storeLocals, hg]
      show (if w.category = 2 then _ else _) = _
      rw [if_neg hw]; exact h3
  by_cases hb : ok1 o = true ∧ ok1 o' = true
  · exact main hb.1 hb.2 hs
  · have : (∃ z, o = .val (.long z)) ∧ o' = .second := by
      unfold ok2 at ho
      split at ho
      · exact ⟨⟨_, rfl⟩, rfl⟩
      · simp only [Bool.and_eq_true] at ho; exact absurd ho hb
    obtain ⟨⟨z, rfl⟩, rfl⟩ := this
    simp only [storeLocals, hg]
    have e4 : setAt (⟨pre ++ .val (.long z) :: .second :: t⟩ : Array Slot) (pre.length + 1) .unset = some ⟨pre ++ .val (.long z) :: .unset :: t⟩ := by
      simp [setAt, Array.setIfInBounds]
    simp only [Option.bind_eq_bind, Option.bind_some, Value.category, if_true, e4]
    exact hs .unset fun w e => by cases e
theorem istoreN_1 {s0 : Slot} {o : Slot} {t : List Slot} {x : Int32} {pc' : Nat} (hd : decode code pc = .ok (.istore_n 1, 1)) (ho : ok1 o = true) (hp : pc + 1 = pc') (w : WP l Z a0 n0 R y code mx ret cells slots pc' (s0 :: .val (.int x) :: t) st H Q) : WP l Z a0 n0 R y code mx ret cells slots pc (s0 :: o :: t) (.int x :: st) H Q := by
  subst hp
  exact pure (fun p e m below c T t h hx hc' hs => XS.istoreN h hx rfl (hb hc' hd) rfl (stl1 [s0] ho rfl) hs) w
theorem istoreN_2 {s0 s1 : Slot} {o : Slot} {t : List Slot} {x : Int32} {pc' : Nat} (hd : decode code pc = .ok (.istore_n 2, 1)) (ho : ok1 o = true) (hp : pc + 1 = pc') (w : WP l Z a0 n0 R y code mx ret cells slots pc' (s0 :: s1 :: .val (.int x) :: t) st H Q) : WP l Z a0 n0 R y code mx ret cells slots pc (s0 :: s1 :: o :: t) (.int x :: st) H Q := by
  subst hp
  exact pure (fun p e m below c T t h hx hc' hs => XS.istoreN h hx rfl (hb hc' hd) rfl (stl1 [s0, s1] ho rfl) hs) w
theorem lstoreN_2 {s0 s1 : Slot} {o o' : Slot} {t : List Slot} {x : Int64} {pc' : Nat} (hd : decode code pc = .ok (.lstore_n 2, 1)) (ho : ok2 o o' = true) (hp : pc + 1 = pc') (w : WP l Z a0 n0 R y code mx ret cells slots pc' (s0 :: s1 :: .val (.long x) :: .second :: t) st H Q) : WP l Z a0 n0 R y code mx ret cells slots pc (s0 :: s1 :: o :: o' :: t) (.long x :: st) H Q := by
  subst hp
  exact pure (fun p e m below c T t h hx hc' hs => XS.lstoreN h hx rfl (hb hc' hd) rfl (stl2 [s0, s1] ho) hs) w
theorem istoreN_3 {s0 s1 s2 : Slot} {o : Slot} {t : List Slot} {x : Int32} {pc' : Nat} (hd : decode code pc = .ok (.istore_n 3, 1)) (ho : ok1 o = true) (hp : pc + 1 = pc') (w : WP l Z a0 n0 R y code mx ret cells slots pc' (s0 :: s1 :: s2 :: .val (.int x) :: t) st H Q) : WP l Z a0 n0 R y code mx ret cells slots pc (s0 :: s1 :: s2 :: o :: t) (.int x :: st) H Q := by
  subst hp
  exact pure (fun p e m below c T t h hx hc' hs => XS.istoreN h hx rfl (hb hc' hd) rfl (stl1 [s0, s1, s2] ho rfl) hs) w
theorem istore_4 {s0 s1 s2 s3 : Slot} {o : Slot} {t : List Slot} {x : Int32} {pc' : Nat} (hd : decode code pc = .ok (.istore 4, 2)) (ho : ok1 o = true) (hp : pc + 2 = pc') (w : WP l Z a0 n0 R y code mx ret cells slots pc' (s0 :: s1 :: s2 :: s3 :: .val (.int x) :: t) st H Q) : WP l Z a0 n0 R y code mx ret cells slots pc (s0 :: s1 :: s2 :: s3 :: o :: t) (.int x :: st) H Q := by
  subst hp
  exact pure (fun p e m below c T t h hx hc' hs => XS.istore h hx rfl (hb hc' hd) rfl (stl1 [s0, s1, s2, s3] ho rfl) hs) w
theorem iinc_4 {s0 s1 s2 s3 : Slot} {t : List Slot} {x : Int32} {i : Int} (n : Int32) {pc' : Nat} (hd : decode code pc = .ok (.iinc 4 i, 3)) (hn : Int32.ofInt i = n) (hp : pc + 3 = pc') (w : WP l Z a0 n0 R y code mx ret cells slots pc' (s0 :: s1 :: s2 :: s3 :: .val (.int (x + n)) :: t) st H Q) : WP l Z a0 n0 R y code mx ret cells slots pc (s0 :: s1 :: s2 :: s3 :: .val (.int x) :: t) st H Q := by
  subst hp hn
  exact pure (fun p e m below c T t h hx hc' hs => XS.iinc h hx rfl (hb hc' hd) rfl (stl1 [s0, s1, s2, s3] rfl rfl) hs) w
theorem istore_5 {s0 s1 s2 s3 s4 : Slot} {o : Slot} {t : List Slot} {x : Int32} {pc' : Nat} (hd : decode code pc = .ok (.istore 5, 2)) (ho : ok1 o = true) (hp : pc + 2 = pc') (w : WP l Z a0 n0 R y code mx ret cells slots pc' (s0 :: s1 :: s2 :: s3 :: s4 :: .val (.int x) :: t) st H Q) : WP l Z a0 n0 R y code mx ret cells slots pc (s0 :: s1 :: s2 :: s3 :: s4 :: o :: t) (.int x :: st) H Q := by
  subst hp
  exact pure (fun p e m below c T t h hx hc' hs => XS.istore h hx rfl (hb hc' hd) rfl (stl1 [s0, s1, s2, s3, s4] ho rfl) hs) w
theorem lstore_5 {s0 s1 s2 s3 s4 : Slot} {o o' : Slot} {t : List Slot} {x : Int64} {pc' : Nat} (hd : decode code pc = .ok (.lstore 5, 2)) (ho : ok2 o o' = true) (hp : pc + 2 = pc') (w : WP l Z a0 n0 R y code mx ret cells slots pc' (s0 :: s1 :: s2 :: s3 :: s4 :: .val (.long x) :: .second :: t) st H Q) : WP l Z a0 n0 R y code mx ret cells slots pc (s0 :: s1 :: s2 :: s3 :: s4 :: o :: o' :: t) (.long x :: st) H Q := by
  subst hp
  exact pure (fun p e m below c T t h hx hc' hs => XS.lstore h hx rfl (hb hc' hd) rfl (stl2 [s0, s1, s2, s3, s4] ho) hs) w
theorem istore_7 {s0 s1 s2 s3 s4 s5 s6 : Slot} {o : Slot} {t : List Slot} {x : Int32} {pc' : Nat} (hd : decode code pc = .ok (.istore 7, 2)) (ho : ok1 o = true) (hp : pc + 2 = pc') (w : WP l Z a0 n0 R y code mx ret cells slots pc' (s0 :: s1 :: s2 :: s3 :: s4 :: s5 :: s6 :: .val (.int x) :: t) st H Q) : WP l Z a0 n0 R y code mx ret cells slots pc (s0 :: s1 :: s2 :: s3 :: s4 :: s5 :: s6 :: o :: t) (.int x :: st) H Q := by
  subst hp
  exact pure (fun p e m below c T t h hx hc' hs => XS.istore h hx rfl (hb hc' hd) rfl (stl1 [s0, s1, s2, s3, s4, s5, s6] ho rfl) hs) w
theorem istore_8 {s0 s1 s2 s3 s4 s5 s6 s7 : Slot} {o : Slot} {t : List Slot} {x : Int32} {pc' : Nat} (hd : decode code pc = .ok (.istore 8, 2)) (ho : ok1 o = true) (hp : pc + 2 = pc') (w : WP l Z a0 n0 R y code mx ret cells slots pc' (s0 :: s1 :: s2 :: s3 :: s4 :: s5 :: s6 :: s7 :: .val (.int x) :: t) st H Q) : WP l Z a0 n0 R y code mx ret cells slots pc (s0 :: s1 :: s2 :: s3 :: s4 :: s5 :: s6 :: s7 :: o :: t) (.int x :: st) H Q := by
  subst hp
  exact pure (fun p e m below c T t h hx hc' hs => XS.istore h hx rfl (hb hc' hd) rfl (stl1 [s0, s1, s2, s3, s4, s5, s6, s7] ho rfl) hs) w
theorem istore_9 {s0 s1 s2 s3 s4 s5 s6 s7 s8 : Slot} {o : Slot} {t : List Slot} {x : Int32} {pc' : Nat} (hd : decode code pc = .ok (.istore 9, 2)) (ho : ok1 o = true) (hp : pc + 2 = pc') (w : WP l Z a0 n0 R y code mx ret cells slots pc' (s0 :: s1 :: s2 :: s3 :: s4 :: s5 :: s6 :: s7 :: s8 :: .val (.int x) :: t) st H Q) : WP l Z a0 n0 R y code mx ret cells slots pc (s0 :: s1 :: s2 :: s3 :: s4 :: s5 :: s6 :: s7 :: s8 :: o :: t) (.int x :: st) H Q := by
  subst hp
  exact pure (fun p e m below c T t h hx hc' hs => XS.istore h hx rfl (hb hc' hd) rfl (stl1 [s0, s1, s2, s3, s4, s5, s6, s7, s8] ho rfl) hs) w
theorem lstore_10 {s0 s1 s2 s3 s4 s5 s6 s7 s8 s9 : Slot} {o o' : Slot} {t : List Slot} {x : Int64} {pc' : Nat} (hd : decode code pc = .ok (.lstore 10, 2)) (ho : ok2 o o' = true) (hp : pc + 2 = pc') (w : WP l Z a0 n0 R y code mx ret cells slots pc' (s0 :: s1 :: s2 :: s3 :: s4 :: s5 :: s6 :: s7 :: s8 :: s9 :: .val (.long x) :: .second :: t) st H Q) : WP l Z a0 n0 R y code mx ret cells slots pc (s0 :: s1 :: s2 :: s3 :: s4 :: s5 :: s6 :: s7 :: s8 :: s9 :: o :: o' :: t) (.long x :: st) H Q := by
  subst hp
  exact pure (fun p e m below c T t h hx hc' hs => XS.lstore h hx rfl (hb hc' hd) rfl (stl2 [s0, s1, s2, s3, s4, s5, s6, s7, s8, s9] ho) hs) w
theorem leaveW {v : Option Value} {st : List Value} (hv : ret = none → v = none) (q : Q v H)
    (h : ∀ (p : Program) (e : Env) (s : State) (m : MethodId) (args : Array Value) (below : List Frame) (meth : Method) (c : Code) (T : State) (locs : List Loc) (fs : List Frame), Stand p l e R s m args below meth c T locs cells slots → p.tables.exec = Jvm.exec → c.code = code → meth.sig.returnType = ret → (∀ (f : JFrame) (acts : List Action), f.method = m → f.locked = none → f.entered = [] → (doReturn e (T.setTop f) acts v).1 = T.setFrames fs) → Steps p.tables e below (T.setTop (mkF m pc ⟨Ls⟩ st)) (T.setFrames fs)) : WP l Z a0 n0 R y code mx ret cells slots pc Ls st H Q := by
  intro p e s m args below meth c T locs X hx hZ hc hm ho hn hr hl hF hR g1 g2
  obtain ⟨fs, hrr, hrun, hended, hW, hsame⟩ := X.leave (v := v) (fun k => hv (by rw [← hr]; exact k)) hl
  exact ⟨v, H, locs, _, h p e s m args below meth c T locs fs X hx hc hr hrr, hrun, hended, hF, hR, q, hW, hsame.mono g1 g2⟩
theorem ireturn {z : Int32} (hret : ret = some .int) (hd : decode code pc = .ok (.ireturn, 1)) (q : Q (some (.int z)) H) : WP l Z a0 n0 R y code mx ret cells slots pc Ls (.int z :: st) H Q :=
  leaveW (fun k => by rw [hret] at k; cases k) q fun p e s m args below meth c T locs fs X hx hc hr hrr => retI X hx (hr.trans hret) (hb hc hd) hrr
theorem zreturn {z : Int32} (hret : ret = some .boolean) (hd : decode code pc = .ok (.ireturn, 1)) (q : Q (some (.int (z &&& 1))) H) : WP l Z a0 n0 R y code mx ret cells slots pc Ls (.int z :: st) H Q :=
  leaveW (fun k => by rw [hret] at k; cases k) q fun p e s m args below meth c T locs fs X hx hc hr hrr => retN X hx (t := .boolean) (hr.trans hret) (by simp) (hb hc hd) hrr
theorem lreturn {z : Int64} (hret : ret = some .long) (hd : decode code pc = .ok (.lreturn, 1)) (q : Q (some (.long z)) H) : WP l Z a0 n0 R y code mx ret cells slots pc Ls (.long z :: st) H Q :=
  leaveW (fun k => by rw [hret] at k; cases k) q fun p e s m args below meth c T locs fs X hx hc hr hrr => retOut X hx (hr.trans hret) rfl (Or.inr (Or.inl ⟨rfl, rfl, _, rfl⟩)) (hb hc hd) hrr
/-- what a call by a contract leaves -/
def After (l : Launch) (Z : State) (a0 : Array Value) (n0 : Nat) (R : Room) (y : MethodName) (code : ByteArray) (mx : Nat) (ret : Option FieldType) (cells slots pc : Nat) (Ls : List Slot) (st : List Value) (Q : Option Value → MH → Prop) : Option Value → MH → Prop
  | some r, H' => WP l Z a0 n0 R y code mx ret cells slots pc Ls (r :: st) H' Q
  | none, H' => WP l Z a0 n0 R y code mx ret cells slots pc Ls st H' Q
theorem After.to {v : Option Value} {H' : MH} (h : After l Z a0 n0 R y code mx ret cells slots pc Ls st Q v H') : WP l Z a0 n0 R y code mx ret cells slots pc Ls (v.toList ++ st) H' Q := by
  cases v <;> exact h
theorem callSG {z : MethodName} {zc : ByteArray} {zm : Nat} {zr : Option FieldType} {ps : List FieldType} {i : Nat} {rm : Room} {pc' : Nat} (W : Nat) (argsL : List Value) {rest : List Value} (w1 : (Cond.methodLink y.cls i z).before a0 Z = true) (w2 : (Cond.static z).before a0 Z = true) (w3 : (Cond.initialized z.cls).before a0 Z = true) (w4 : (Cond.code z zc zm zr).before a0 Z = true) (hy : z.cls ≠ "java/lang/invoke/MethodHandle" ∧ z.cls ≠ "java/lang/invoke/VarHandle") (hds : parseMethodDescriptor z.desc = some ⟨ps, zr⟩) (hlen : argsL.length = ps.length) (hd : decode code pc = .ok (.invokestatic i, 3)) (hs : Ls.length = mx) (hW : (rest.map fun v => v.category).sum = W) (hf : rm.frames + 1 ≤ R.frames) (hl : W + (zm + 11) + rm.locals ≤ R.locals) (hc : cells + rm.cells ≤ R.cells) (hsl : slots + rm.slots ≤ R.slots) (hp : pc + 3 = pc') {cells' slots' : Nat} (hc' : cells + rm.cells = cells') (hs' : slots + rm.slots = slots') (hst : st = argsL.reverse ++ rest)
    (k : Con l Z a0 n0 z zc zm zr rm argsL.toArray H (After l Z a0 n0 R y code mx ret cells' slots' pc' Ls rest Q)) : WP l Z a0 n0 R y code mx ret cells slots pc Ls st H Q := by
  subst hp hst hc' hs'
  intro p e s m args below meth c T locs X hx hZ hcode hm ho hnm hr hlk hF hR g1 g2
  obtain ⟨v, vm, ⟨T', L', k', n'⟩, -, X', ⟨Lc, ⟨q1, H', q2, q3⟩, e1, e2, e3⟩, st'⟩ := Jvm.LawKit.callS X hx (y := z) ho (mvT hZ w1) (mvT hZ w2) (mvT hZ w3) (mvT hZ w4) hy (backOf (W := W) (h := T.heap) (Q := fun v h L => Fr n0 L ∧ ∃ H', Rel Z a0 n0 H' h ∧ After l Z a0 n0 R y code mx ret (cells + rm.cells) (slots + rm.slots) (pc + 3) Ls rest Q v H') (k [] T.heap hR) hZ w4 w3 hf hl) (g := mkF m pc ⟨Ls⟩ (argsL.reverse ++ rest)) rfl (by rw [hm]; simpa using hs) (argsL := argsL) (rest := rest) (lenOf hds hlen) rfl (by show 2 * 0 + _ ≤ _; omega) (hb hcode hd) (fun _ _ => ⟨rfl, rfl, hc, hsl⟩)
  dsimp only [Pt.U, Pt.locs, Pt.cells, Pt.slots] at X' e1 e2 e3 st'
  subst e1 e2 e3
  obtain ⟨v2, H2, L2, s2, k1, k2⟩ := (After.to q3) p e s m args below meth c T' _ X' hx hZ hcode hm ho hnm hr hlk (Fr.app hF q1) q2 hc hsl
  exact ⟨v2, H2, L2, s2, st' _ k1, k2⟩
theorem afterS {r : Value} {H' : MH} (h : WP l Z a0 n0 R y code mx ret cells slots pc Ls (r :: st) H' Q) : After l Z a0 n0 R y code mx ret cells slots pc Ls st Q (some r) H' := h
theorem callS_1 {z : MethodName} {zc : ByteArray} {zm : Nat} {zr : Option FieldType} {ps : List FieldType} {i : Nat} {rm : Room} {pc' : Nat} (W : Nat) {v0 : Value} {rest : List Value} (w1 : (Cond.methodLink y.cls i z).before a0 Z = true) (w2 : (Cond.static z).before a0 Z = true) (w3 : (Cond.initialized z.cls).before a0 Z = true) (w4 : (Cond.code z zc zm zr).before a0 Z = true) (hy : z.cls ≠ "java/lang/invoke/MethodHandle" ∧ z.cls ≠ "java/lang/invoke/VarHandle") (hds : parseMethodDescriptor z.desc = some ⟨ps, zr⟩) (hlen : 1 = ps.length) (hd : decode code pc = .ok (.invokestatic i, 3)) (hs : Ls.length = mx) (hW : (rest.map fun v => v.category).sum = W) (hf : rm.frames + 1 ≤ R.frames) (hl : W + (zm + 11) + rm.locals ≤ R.locals) (hc : cells + rm.cells ≤ R.cells) (hsl : slots + rm.slots ≤ R.slots) (hp : pc + 3 = pc') {cells' slots' : Nat} (hc' : cells + rm.cells = cells') (hs' : slots + rm.slots = slots') (k : Con l Z a0 n0 z zc zm zr rm #[v0] H (After l Z a0 n0 R y code mx ret cells' slots' pc' Ls rest Q)) : WP l Z a0 n0 R y code mx ret cells slots pc Ls (v0 :: rest) H Q := callSG W [v0] w1 w2 w3 w4 hy hds hlen hd hs hW hf hl hc hsl hp hc' hs' rfl k
end Jvm.Wp
namespace Jvm.Pilot.@@N@@
open Jvm Jvm.ClassFile Sem Op Lib Jvm.Free Jvm.Stand Jvm.LawKit Jvm.RoadKit Bundle Jvm.Pilot.@@N@@.Jvm.D
set_option maxHeartbeats 8000000
abbrev Hw (Z : State) (a0 : Array Value) : Prop := ∀ d ∈ tables_1, d.before a0 Z = true
theorem w0 {Z : State} {a0 : Array Value} (hw : Hw Z a0) : (Jvm.Cond.methodLink "com/example/indizio/indizio/distinct/RegisterChancePinLaw" (7 : Nat) ({ cls := "com/example/indizio/indizio/distinct/Register", name := "chance", desc := "(B)J" } : Jvm.MethodName)).before a0 Z = true := hw _ (List.mem_of_getElem? (i := 0) rfl)
theorem w1 {Z : State} {a0 : Array Value} (hw : Hw Z a0) : (Jvm.Cond.static ({ cls := "com/example/indizio/indizio/distinct/Register", name := "chance", desc := "(B)J" } : Jvm.MethodName)).before a0 Z = true := hw _ (List.mem_of_getElem? (i := 1) rfl)
theorem w2 {Z : State} {a0 : Array Value} (hw : Hw Z a0) : (Jvm.Cond.initialized "com/example/indizio/indizio/distinct/Register").before a0 Z = true := hw _ (List.mem_of_getElem? (i := 2) rfl)
theorem w3 {Z : State} {a0 : Array Value} (hw : Hw Z a0) : (Jvm.Cond.code ({ cls := "com/example/indizio/indizio/distinct/Register", name := "chance", desc := "(B)J" } : Jvm.MethodName) prog_5_method_8_code (6 : Nat) (Option.some Jvm.ClassFile.FieldType.long)).before a0 Z = true := hw _ (List.mem_of_getElem? (i := 3) rfl)
theorem w4 {Z : State} {a0 : Array Value} (hw : Hw Z a0) : (Jvm.Cond.methodLink "com/example/indizio/indizio/distinct/Register" (19 : Nat) ({ cls := "com/example/indizio/indizio/distinct/Register", name := "value", desc := "(B)I" } : Jvm.MethodName)).before a0 Z = true := hw _ (List.mem_of_getElem? (i := 4) rfl)
theorem w5 {Z : State} {a0 : Array Value} (hw : Hw Z a0) : (Jvm.Cond.static ({ cls := "com/example/indizio/indizio/distinct/Register", name := "value", desc := "(B)I" } : Jvm.MethodName)).before a0 Z = true := hw _ (List.mem_of_getElem? (i := 5) rfl)
theorem w6 {Z : State} {a0 : Array Value} (hw : Hw Z a0) : (Jvm.Cond.code ({ cls := "com/example/indizio/indizio/distinct/Register", name := "value", desc := "(B)I" } : Jvm.MethodName) prog_5_method_2_code (1 : Nat) (Option.some Jvm.ClassFile.FieldType.int)).before a0 Z = true := hw _ (List.mem_of_getElem? (i := 6) rfl)
theorem d1_0 : decode prog_5_method_8_code 0 = .ok (.iload_n 0, 1) := by decide +kernel
theorem d1_1 : decode prog_5_method_8_code 1 = .ok (.invokestatic 19, 3) := by decide +kernel
theorem d1_4 : decode prog_5_method_8_code 4 = .ok (.istore_n 1, 1) := by decide +kernel
theorem d1_5 : decode prog_5_method_8_code 5 = .ok (.iload_n 1, 1) := by decide +kernel
theorem d1_6 : decode prog_5_method_8_code 6 = .ok (.bipush 31, 2) := by decide +kernel
theorem d1_8 : decode prog_5_method_8_code 8 = .ok (.if_icmp .ne 7, 3) := by decide +kernel
theorem d1_11 : decode prog_5_method_8_code 11 = .ok (.lconst 0, 1) := by decide +kernel
theorem d1_12 : decode prog_5_method_8_code 12 = .ok (.goto 9, 3) := by decide +kernel
theorem d1_15 : decode prog_5_method_8_code 15 = .ok (.lconst 1, 1) := by decide +kernel
theorem d1_16 : decode prog_5_method_8_code 16 = .ok (.bipush 30, 2) := by decide +kernel
theorem d1_18 : decode prog_5_method_8_code 18 = .ok (.iload_n 1, 1) := by decide +kernel
theorem d1_19 : decode prog_5_method_8_code 19 = .ok (.isub, 1) := by decide +kernel
theorem d1_20 : decode prog_5_method_8_code 20 = .ok (.lshl, 1) := by decide +kernel
theorem d1_21 : decode prog_5_method_8_code 21 = .ok (.lstore_n 2, 1) := by decide +kernel
theorem d1_22 : decode prog_5_method_8_code 22 = .ok (.iconst 1, 1) := by decide +kernel
theorem d1_23 : decode prog_5_method_8_code 23 = .ok (.istore 4, 2) := by decide +kernel
theorem d1_25 : decode prog_5_method_8_code 25 = .ok (.iload 4, 2) := by decide +kernel
theorem d1_27 : decode prog_5_method_8_code 27 = .ok (.iconst 3, 1) := by decide +kernel
theorem d1_28 : decode prog_5_method_8_code 28 = .ok (.if_icmp .gt 52, 3) := by decide +kernel
theorem d1_31 : decode prog_5_method_8_code 31 = .ok (.iload_n 0, 1) := by decide +kernel
theorem d1_32 : decode prog_5_method_8_code 32 = .ok (.iconst 1, 1) := by decide +kernel
theorem d1_33 : decode prog_5_method_8_code 33 = .ok (.iconst 3, 1) := by decide +kernel
theorem d1_34 : decode prog_5_method_8_code 34 = .ok (.iload 4, 2) := by decide +kernel
theorem d1_36 : decode prog_5_method_8_code 36 = .ok (.isub, 1) := by decide +kernel
theorem d1_37 : decode prog_5_method_8_code 37 = .ok (.ishl, 1) := by decide +kernel
theorem d1_38 : decode prog_5_method_8_code 38 = .ok (.iand, 1) := by decide +kernel
theorem d1_39 : decode prog_5_method_8_code 39 = .ok (.ifCond .eq 7, 3) := by decide +kernel
theorem d1_42 : decode prog_5_method_8_code 42 = .ok (.iconst 1, 1) := by decide +kernel
theorem d1_43 : decode prog_5_method_8_code 43 = .ok (.goto 4, 3) := by decide +kernel
theorem d1_46 : decode prog_5_method_8_code 46 = .ok (.iconst 0, 1) := by decide +kernel
theorem d1_47 : decode prog_5_method_8_code 47 = .ok (.istore 5, 2) := by decide +kernel
theorem d1_49 : decode prog_5_method_8_code 49 = .ok (.iload_n 1, 1) := by decide +kernel
theorem d1_50 : decode prog_5_method_8_code 50 = .ok (.iload 4, 2) := by decide +kernel
theorem d1_52 : decode prog_5_method_8_code 52 = .ok (.isub, 1) := by decide +kernel
theorem d1_53 : decode prog_5_method_8_code 53 = .ok (.iconst 1, 1) := by decide +kernel
theorem d1_54 : decode prog_5_method_8_code 54 = .ok (.if_icmp .lt 20, 3) := by decide +kernel
theorem d1_57 : decode prog_5_method_8_code 57 = .ok (.iload 5, 2) := by decide +kernel
theorem d1_59 : decode prog_5_method_8_code 59 = .ok (.ifCond .ne 15, 3) := by decide +kernel
theorem d1_62 : decode prog_5_method_8_code 62 = .ok (.lload_n 2, 1) := by decide +kernel
theorem d1_63 : decode prog_5_method_8_code 63 = .ok (.lconst 1, 1) := by decide +kernel
theorem d1_64 : decode prog_5_method_8_code 64 = .ok (.bipush 30, 2) := by decide +kernel
theorem d1_66 : decode prog_5_method_8_code 66 = .ok (.iload_n 1, 1) := by decide +kernel
theorem d1_67 : decode prog_5_method_8_code 67 = .ok (.iload 4, 2) := by decide +kernel
theorem d1_69 : decode prog_5_method_8_code 69 = .ok (.isub, 1) := by decide +kernel
theorem d1_70 : decode prog_5_method_8_code 70 = .ok (.isub, 1) := by decide +kernel
theorem d1_71 : decode prog_5_method_8_code 71 = .ok (.lshl, 1) := by decide +kernel
theorem d1_72 : decode prog_5_method_8_code 72 = .ok (.ladd, 1) := by decide +kernel
theorem d1_73 : decode prog_5_method_8_code 73 = .ok (.lstore_n 2, 1) := by decide +kernel
theorem d1_74 : decode prog_5_method_8_code 74 = .ok (.iinc 4 1, 3) := by decide +kernel
theorem d1_77 : decode prog_5_method_8_code 77 = .ok (.goto (-52), 3) := by decide +kernel
theorem d1_80 : decode prog_5_method_8_code 80 = .ok (.lload_n 2, 1) := by decide +kernel
theorem d1_81 : decode prog_5_method_8_code 81 = .ok (.lreturn, 1) := by decide +kernel
theorem d2_0 : decode prog_5_method_2_code 0 = .ok (.iload_n 0, 1) := by decide +kernel
theorem d2_1 : decode prog_5_method_2_code 1 = .ok (.sipush 255, 3) := by decide +kernel
theorem d2_4 : decode prog_5_method_2_code 4 = .ok (.iand, 1) := by decide +kernel
theorem d2_5 : decode prog_5_method_2_code 5 = .ok (.iconst 3, 1) := by decide +kernel
theorem d2_6 : decode prog_5_method_2_code 6 = .ok (.iushr, 1) := by decide +kernel
theorem d2_7 : decode prog_5_method_2_code 7 = .ok (.ireturn, 1) := by decide +kernel
theorem pd0 : parseMethodDescriptor "(B)I" = some ⟨[.byte], some .int⟩ := by decide +kernel
theorem pd1 : parseMethodDescriptor "(B)J" = some ⟨[.byte], some .long⟩ := by decide +kernel
abbrev nm0 : MethodName := x
abbrev rm0 : Room := room_1
abbrev C0 (l : Launch) (Z : State) (a0 : Array Value) (n0 : Nat) := Wp.Con l Z a0 n0 nm0 code maxLocals ret rm0
abbrev W0 (l : Launch) (Z : State) (a0 : Array Value) (n0 : Nat) := Wp.WP l Z a0 n0 rm0 nm0 code maxLocals ret
theorem pn0 : plainFor nm0 = true := by first | exact plainFor_of_name (by first | (simp [plainName, overriddenIn, nm0, x]; done) | decide +kernel) | decide +kernel
theorem ef0 (m : MethodId) (x0 : Int32) : entryFrame m #[(.int x0)] maxLocals = mkF m 0 ⟨[.val (.int x0), .unset, .unset, .unset, .unset, .unset, .unset, .unset, .unset, .unset, .unset, .unset]⟩ [] := by first | exact (Wp.efG m [(.int x0)] maxLocals).trans rfl | (simp [entryFrame, mkF, argsToLocals, Value.category, maxLocals]; done)
abbrev nm1 : MethodName := ⟨"com/example/indizio/indizio/distinct/Register", "chance", "(B)J"⟩
abbrev rm1 : Room := { frames := 1, cells := 0, slots := 0, locals := 12 }
abbrev C1 (l : Launch) (Z : State) (a0 : Array Value) (n0 : Nat) := Wp.Con l Z a0 n0 nm1 prog_5_method_8_code 6 (some .long) rm1
abbrev W1 (l : Launch) (Z : State) (a0 : Array Value) (n0 : Nat) := Wp.WP l Z a0 n0 rm1 nm1 prog_5_method_8_code 6 (some .long)
theorem pn1 : plainFor nm1 = true := by first | exact plainFor_of_name (by first | (simp [plainName, overriddenIn, nm1, x]; done) | decide +kernel) | decide +kernel
theorem ef1 (m : MethodId) (x0 : Int32) : entryFrame m #[(.int x0)] 6 = mkF m 0 ⟨[.val (.int x0), .unset, .unset, .unset, .unset, .unset]⟩ [] := by first | exact (Wp.efG m [(.int x0)] 6).trans rfl | (simp [entryFrame, mkF, argsToLocals, Value.category]; done)
abbrev nm2 : MethodName := ⟨"com/example/indizio/indizio/distinct/Register", "value", "(B)I"⟩
abbrev rm2 : Room := { frames := 0, cells := 0, slots := 0, locals := 0 }
abbrev C2 (l : Launch) (Z : State) (a0 : Array Value) (n0 : Nat) := Wp.Con l Z a0 n0 nm2 prog_5_method_2_code 1 (some .int) rm2
abbrev W2 (l : Launch) (Z : State) (a0 : Array Value) (n0 : Nat) := Wp.WP l Z a0 n0 rm2 nm2 prog_5_method_2_code 1 (some .int)
theorem pn2 : plainFor nm2 = true := by first | exact plainFor_of_name (by first | (simp [plainName, overriddenIn, nm2, x]; done) | decide +kernel) | decide +kernel
theorem ef2 (m : MethodId) (x0 : Int32) : entryFrame m #[(.int x0)] 1 = mkF m 0 ⟨[.val (.int x0)]⟩ [] := by first | exact (Wp.efG m [(.int x0)] 1).trans rfl | (simp [entryFrame, mkF, argsToLocals, Value.category]; done)
set_option maxRecDepth 65536
theorem own_low8 (x : Int32) : ∃ k : Fin 256, x &&& 255 = Int32.ofNat k.1 ∧ x.toInt8 = Int8.ofNat k.1 := by
  refine ⟨⟨x.toBitVec.toNat % 256, Nat.mod_lt _ (by decide)⟩, ?_, ?_⟩
  · apply Int32.toBitVec_inj.mp
    apply BitVec.eq_of_toNat_eq
    rw [Int32.toBitVec_and, BitVec.toNat_and]
    show x.toBitVec.toNat &&& 255 = (BitVec.ofNat 32 (x.toBitVec.toNat % 256)).toNat
    rw [show (255 : Nat) = 2 ^ 8 - 1 from rfl, Nat.and_two_pow_sub_one_eq_mod, BitVec.toNat_ofNat]
    omega
  · apply Int8.toBitVec_inj.mp
    apply BitVec.eq_of_toNat_eq
    show (x.toBitVec.signExtend 8).toNat = (BitVec.ofNat 8 (x.toBitVec.toNat % 256)).toNat
    rw [BitVec.signExtend_eq_setWidth_of_le _ (by decide), BitVec.toNat_setWidth, BitVec.toNat_ofNat]
    omega

def own_val (z : Int32) : Int32 := ((z &&& 255).toUInt32 >>> ((3 : Int32) &&& 31).toUInt32).toInt32
def own_above (v : Int32) : Int64 := if v = 31 then 0 else (1 : Int64) <<< ((30 - v) &&& 0x3f).toInt64
def own_step (z v : Int32) (acc : Int64) (i : Int32) : Int64 := if z &&& ((1 : Int32) <<< ((3 - i) &&& 31)) = 0 ∧ 1 ≤ (v - i).toInt then acc + (1 : Int64) <<< ((30 - (v - i)) &&& 0x3f).toInt64 else acc
def own_chance (z : Int32) : Int64 := own_step z (own_val z) (own_step z (own_val z) (own_step z (own_val z) (own_above (own_val z)) 1) 2) 3
def own_valid (v : Int32) : Int32 := if v.toInt ≤ 1 then 0 else if v = 2 then 4 else if v = 3 then 6 else 7
def own_exp (u : Int32) : Int64 :=
  let v := (u.toUInt32 >>> ((3 : Int32) &&& 31).toUInt32).toInt32
  let m := (((u &&& 7) ^^^ (-1)) &&& 7) &&& own_valid v
  let r := (((m &&& 1) <<< ((2 : Int32) &&& 31)) ||| (m &&& 2)) ||| ((m &&& 4) >>> ((2 : Int32) &&& 31))
  own_above v + r.toInt64 <<< ((31 - v) &&& 0x3f).toInt64
theorem own_all (x : Int32) : own_chance x.toInt8.toInt32 = own_exp (x &&& 255) := by
  obtain ⟨k, h1, h2⟩ := own_low8 x
  rw [h1, h2]
  have : ∀ k : Fin 256, own_chance (Int8.ofNat k.1).toInt32 = own_exp (Int32.ofNat k.1) := by decide +kernel
  exact this k
theorem con2 {l : Launch} {Z : State} {a0 : Array Value} {n0 : Nat} (hw : Hw Z a0) (z : Int32) (H : Wp.MH) :
    C2 l Z a0 n0 #[.int z] H (fun v H' => v = some (.int (own_val z)) ∧ H' = H) := by
  refine Wp.Con.intro pn2 (fun m => ef2 m z) ?_
  refine Wp.iloadN (pc' := 1) d2_0 rfl rfl ?_
  refine Wp.sipush (255) (pc' := 4) d2_1 rfl rfl ?_
  refine Wp.iand (pc' := 5) d2_4 rfl ?_
  refine Wp.iconst (3) (pc' := 6) d2_5 rfl rfl ?_
  refine Wp.iushr (pc' := 7) d2_6 rfl ?_
  refine Wp.ireturn rfl d2_7 ?_
  exact ⟨rfl, rfl⟩
theorem con1 {l : Launch} {Z : State} {a0 : Array Value} {n0 : Nat} (hw : Hw Z a0) (z : Int32) (H : Wp.MH) :
    C1 l Z a0 n0 #[.int z] H (fun v H' => v = some (.long (own_chance z)) ∧ H' = H) := by
  refine Wp.Con.intro pn1 (fun m => ef1 m z) ?_
  generalize hQ : (fun (v : Option Value) (H' : Wp.MH) => v = some (.long (own_chance z)) ∧ H' = H) = Q
  have K4 : ∀ (acc : Int64) (o : Slot), Wp.ok1 o = true → acc = own_chance z → W1 l Z a0 n0 0 0 25 [.val (.int z), .val (.int (own_val z)), .val (.long acc), .second, .val (.int 4), o] [] H Q := by
    intro acc o ho hacc
    refine Wp.iload (pc' := 27) d1_25 rfl rfl ?_
    refine Wp.iconst (3) (pc' := 28) d1_27 rfl rfl ?_
    refine Wp.icmp_gt (pt := 80) (pf := 31) d1_28 (by decide) rfl (fun hc28 => ?_) (fun hc28 => absurd hc28 (by decide))
    refine Wp.lloadN (pc' := 81) d1_80 rfl rfl ?_
    refine Wp.lreturn rfl d1_81 ?_
    subst hQ hacc; exact ⟨rfl, rfl⟩
  have K3 : ∀ (acc : Int64) (o : Slot), Wp.ok1 o = true → own_step z (own_val z) acc 3 = own_chance z → W1 l Z a0 n0 0 0 25 [.val (.int z), .val (.int (own_val z)), .val (.long acc), .second, .val (.int 3), o] [] H Q := by
    intro acc o ho hacc
    refine Wp.iload (pc' := 27) d1_25 rfl rfl ?_
    refine Wp.iconst (3) (pc' := 28) d1_27 rfl rfl ?_
    refine Wp.icmp_gt (pt := 80) (pf := 31) d1_28 (by decide) rfl (fun hc28 => absurd hc28 (by decide)) (fun hc28 => ?_)
    refine Wp.iloadN (pc' := 32) d1_31 rfl rfl ?_
    refine Wp.iconst (1) (pc' := 33) d1_32 rfl rfl ?_
    refine Wp.iconst (3) (pc' := 34) d1_33 rfl rfl ?_
    refine Wp.iload (pc' := 36) d1_34 rfl rfl ?_
    refine Wp.isub (pc' := 37) d1_36 rfl ?_
    refine Wp.ishl (pc' := 38) d1_37 rfl ?_
    refine Wp.iand (pc' := 39) d1_38 rfl ?_
    refine Wp.if_eq (pt := 46) (pf := 42) d1_39 (by decide) rfl (fun hc39 => ?_) (fun hc39 => ?_)
    · refine Wp.iconst (0) (pc' := 47) d1_46 rfl rfl ?_
      refine Wp.istore_5 (pc' := 49) d1_47 ho rfl ?_
      refine Wp.iloadN (pc' := 50) d1_49 rfl rfl ?_
      refine Wp.iload (pc' := 52) d1_50 rfl rfl ?_
      refine Wp.isub (pc' := 53) d1_52 rfl ?_
      refine Wp.iconst (1) (pc' := 54) d1_53 rfl rfl ?_
      refine Wp.icmp_lt (pt := 74) (pf := 57) d1_54 (by decide) rfl (fun hc54 => ?_) (fun hc54 => ?_)
      · refine Wp.iinc_4 (1) (pc' := 77) d1_74 rfl rfl ?_
        refine Wp.goto (pc' := 25) d1_77 (by decide) ?_
        first | exact absurd hc59 (by decide) | (have e2 : own_step z (own_val z) acc 3 = _ := if_pos ⟨by assumption, by simp only [Int32.reduceToInt] at hc54; assumption⟩; rw [e2] at hacc; exact K4 _ _ rfl hacc) | (have e2 : own_step z (own_val z) acc 3 = _ := if_neg (by rintro ⟨q1, q2⟩; first | exact absurd q1 (by assumption) | (simp only [Int32.reduceToInt] at hc54; omega)); rw [e2] at hacc; exact K4 _ _ rfl hacc)
      · refine Wp.iload (pc' := 59) d1_57 rfl rfl ?_
        refine Wp.if_ne (pt := 74) (pf := 62) d1_59 (by decide) rfl (fun hc59 => absurd hc59 (by decide)) (fun hc59 => ?_)
        refine Wp.lloadN (pc' := 63) d1_62 rfl rfl ?_
        refine Wp.lconst (1) (pc' := 64) d1_63 rfl rfl ?_
        refine Wp.bipush (30) (pc' := 66) d1_64 rfl rfl ?_
        refine Wp.iloadN (pc' := 67) d1_66 rfl rfl ?_
        refine Wp.iload (pc' := 69) d1_67 rfl rfl ?_
        refine Wp.isub (pc' := 70) d1_69 rfl ?_
        refine Wp.isub (pc' := 71) d1_70 rfl ?_
        refine Wp.lshl (pc' := 72) d1_71 rfl ?_
        refine Wp.ladd (pc' := 73) d1_72 rfl ?_
        refine Wp.lstoreN_2 (pc' := 74) d1_73 rfl rfl ?_
        refine Wp.iinc_4 (1) (pc' := 77) d1_74 rfl rfl ?_
        refine Wp.goto (pc' := 25) d1_77 (by decide) ?_
        first | exact absurd hc59 (by decide) | (have e2 : own_step z (own_val z) acc 3 = _ := if_pos ⟨by assumption, by simp only [Int32.reduceToInt] at hc54; assumption⟩; rw [e2] at hacc; exact K4 _ _ rfl hacc) | (have e2 : own_step z (own_val z) acc 3 = _ := if_neg (by rintro ⟨q1, q2⟩; first | exact absurd q1 (by assumption) | (simp only [Int32.reduceToInt] at hc54; omega)); rw [e2] at hacc; exact K4 _ _ rfl hacc)
    · refine Wp.iconst (1) (pc' := 43) d1_42 rfl rfl ?_
      refine Wp.goto (pc' := 47) d1_43 (by decide) ?_
      refine Wp.istore_5 (pc' := 49) d1_47 ho rfl ?_
      refine Wp.iloadN (pc' := 50) d1_49 rfl rfl ?_
      refine Wp.iload (pc' := 52) d1_50 rfl rfl ?_
      refine Wp.isub (pc' := 53) d1_52 rfl ?_
      refine Wp.iconst (1) (pc' := 54) d1_53 rfl rfl ?_
      refine Wp.icmp_lt (pt := 74) (pf := 57) d1_54 (by decide) rfl (fun hc54 => ?_) (fun hc54 => ?_)
      · refine Wp.iinc_4 (1) (pc' := 77) d1_74 rfl rfl ?_
        refine Wp.goto (pc' := 25) d1_77 (by decide) ?_
        first | exact absurd hc59 (by decide) | (have e2 : own_step z (own_val z) acc 3 = _ := if_pos ⟨by assumption, by simp only [Int32.reduceToInt] at hc54; assumption⟩; rw [e2] at hacc; exact K4 _ _ rfl hacc) | (have e2 : own_step z (own_val z) acc 3 = _ := if_neg (by rintro ⟨q1, q2⟩; first | exact absurd q1 (by assumption) | (simp only [Int32.reduceToInt] at hc54; omega)); rw [e2] at hacc; exact K4 _ _ rfl hacc)
      · refine Wp.iload (pc' := 59) d1_57 rfl rfl ?_
        refine Wp.if_ne (pt := 74) (pf := 62) d1_59 (by decide) rfl (fun hc59 => ?_) (fun hc59 => absurd hc59 (by decide))
        refine Wp.iinc_4 (1) (pc' := 77) d1_74 rfl rfl ?_
        refine Wp.goto (pc' := 25) d1_77 (by decide) ?_
        first | exact absurd hc59 (by decide) | (have e2 : own_step z (own_val z) acc 3 = _ := if_pos ⟨by assumption, by simp only [Int32.reduceToInt] at hc54; assumption⟩; rw [e2] at hacc; exact K4 _ _ rfl hacc) | (have e2 : own_step z (own_val z) acc 3 = _ := if_neg (by rintro ⟨q1, q2⟩; first | exact absurd q1 (by assumption) | (simp only [Int32.reduceToInt] at hc54; omega)); rw [e2] at hacc; exact K4 _ _ rfl hacc)
  have K2 : ∀ (acc : Int64) (o : Slot), Wp.ok1 o = true → own_step z (own_val z) (own_step z (own_val z) acc 2) 3 = own_chance z → W1 l Z a0 n0 0 0 25 [.val (.int z), .val (.int (own_val z)), .val (.long acc), .second, .val (.int 2), o] [] H Q := by
    intro acc o ho hacc
    refine Wp.iload (pc' := 27) d1_25 rfl rfl ?_
    refine Wp.iconst (3) (pc' := 28) d1_27 rfl rfl ?_
    refine Wp.icmp_gt (pt := 80) (pf := 31) d1_28 (by decide) rfl (fun hc28 => absurd hc28 (by decide)) (fun hc28 => ?_)
    refine Wp.iloadN (pc' := 32) d1_31 rfl rfl ?_
    refine Wp.iconst (1) (pc' := 33) d1_32 rfl rfl ?_
    refine Wp.iconst (3) (pc' := 34) d1_33 rfl rfl ?_
    refine Wp.iload (pc' := 36) d1_34 rfl rfl ?_
    refine Wp.isub (pc' := 37) d1_36 rfl ?_
    refine Wp.ishl (pc' := 38) d1_37 rfl ?_
    refine Wp.iand (pc' := 39) d1_38 rfl ?_
    refine Wp.if_eq (pt := 46) (pf := 42) d1_39 (by decide) rfl (fun hc39 => ?_) (fun hc39 => ?_)
    · refine Wp.iconst (0) (pc' := 47) d1_46 rfl rfl ?_
      refine Wp.istore_5 (pc' := 49) d1_47 ho rfl ?_
      refine Wp.iloadN (pc' := 50) d1_49 rfl rfl ?_
      refine Wp.iload (pc' := 52) d1_50 rfl rfl ?_
      refine Wp.isub (pc' := 53) d1_52 rfl ?_
      refine Wp.iconst (1) (pc' := 54) d1_53 rfl rfl ?_
      refine Wp.icmp_lt (pt := 74) (pf := 57) d1_54 (by decide) rfl (fun hc54 => ?_) (fun hc54 => ?_)
      · refine Wp.iinc_4 (1) (pc' := 77) d1_74 rfl rfl ?_
        refine Wp.goto (pc' := 25) d1_77 (by decide) ?_
        first | exact absurd hc59 (by decide) | (have e2 : own_step z (own_val z) acc 2 = _ := if_pos ⟨by assumption, by simp only [Int32.reduceToInt] at hc54; assumption⟩; rw [e2] at hacc; exact K3 _ _ rfl hacc) | (have e2 : own_step z (own_val z) acc 2 = _ := if_neg (by rintro ⟨q1, q2⟩; first | exact absurd q1 (by assumption) | (simp only [Int32.reduceToInt] at hc54; omega)); rw [e2] at hacc; exact K3 _ _ rfl hacc)
      · refine Wp.iload (pc' := 59) d1_57 rfl rfl ?_
        refine Wp.if_ne (pt := 74) (pf := 62) d1_59 (by decide) rfl (fun hc59 => absurd hc59 (by decide)) (fun hc59 => ?_)
        refine Wp.lloadN (pc' := 63) d1_62 rfl rfl ?_
        refine Wp.lconst (1) (pc' := 64) d1_63 rfl rfl ?_
        refine Wp.bipush (30) (pc' := 66) d1_64 rfl rfl ?_
        refine Wp.iloadN (pc' := 67) d1_66 rfl rfl ?_
        refine Wp.iload (pc' := 69) d1_67 rfl rfl ?_
        refine Wp.isub (pc' := 70) d1_69 rfl ?_
        refine Wp.isub (pc' := 71) d1_70 rfl ?_
        refine Wp.lshl (pc' := 72) d1_71 rfl ?_
        refine Wp.ladd (pc' := 73) d1_72 rfl ?_
        refine Wp.lstoreN_2 (pc' := 74) d1_73 rfl rfl ?_
        refine Wp.iinc_4 (1) (pc' := 77) d1_74 rfl rfl ?_
        refine Wp.goto (pc' := 25) d1_77 (by decide) ?_
        first | exact absurd hc59 (by decide) | (have e2 : own_step z (own_val z) acc 2 = _ := if_pos ⟨by assumption, by simp only [Int32.reduceToInt] at hc54; assumption⟩; rw [e2] at hacc; exact K3 _ _ rfl hacc) | (have e2 : own_step z (own_val z) acc 2 = _ := if_neg (by rintro ⟨q1, q2⟩; first | exact absurd q1 (by assumption) | (simp only [Int32.reduceToInt] at hc54; omega)); rw [e2] at hacc; exact K3 _ _ rfl hacc)
    · refine Wp.iconst (1) (pc' := 43) d1_42 rfl rfl ?_
      refine Wp.goto (pc' := 47) d1_43 (by decide) ?_
      refine Wp.istore_5 (pc' := 49) d1_47 ho rfl ?_
      refine Wp.iloadN (pc' := 50) d1_49 rfl rfl ?_
      refine Wp.iload (pc' := 52) d1_50 rfl rfl ?_
      refine Wp.isub (pc' := 53) d1_52 rfl ?_
      refine Wp.iconst (1) (pc' := 54) d1_53 rfl rfl ?_
      refine Wp.icmp_lt (pt := 74) (pf := 57) d1_54 (by decide) rfl (fun hc54 => ?_) (fun hc54 => ?_)
      · refine Wp.iinc_4 (1) (pc' := 77) d1_74 rfl rfl ?_
        refine Wp.goto (pc' := 25) d1_77 (by decide) ?_
        first | exact absurd hc59 (by decide) | (have e2 : own_step z (own_val z) acc 2 = _ := if_pos ⟨by assumption, by simp only [Int32.reduceToInt] at hc54; assumption⟩; rw [e2] at hacc; exact K3 _ _ rfl hacc) | (have e2 : own_step z (own_val z) acc 2 = _ := if_neg (by rintro ⟨q1, q2⟩; first | exact absurd q1 (by assumption) | (simp only [Int32.reduceToInt] at hc54; omega)); rw [e2] at hacc; exact K3 _ _ rfl hacc)
      · refine Wp.iload (pc' := 59) d1_57 rfl rfl ?_
        refine Wp.if_ne (pt := 74) (pf := 62) d1_59 (by decide) rfl (fun hc59 => ?_) (fun hc59 => absurd hc59 (by decide))
        refine Wp.iinc_4 (1) (pc' := 77) d1_74 rfl rfl ?_
        refine Wp.goto (pc' := 25) d1_77 (by decide) ?_
        first | exact absurd hc59 (by decide) | (have e2 : own_step z (own_val z) acc 2 = _ := if_pos ⟨by assumption, by simp only [Int32.reduceToInt] at hc54; assumption⟩; rw [e2] at hacc; exact K3 _ _ rfl hacc) | (have e2 : own_step z (own_val z) acc 2 = _ := if_neg (by rintro ⟨q1, q2⟩; first | exact absurd q1 (by assumption) | (simp only [Int32.reduceToInt] at hc54; omega)); rw [e2] at hacc; exact K3 _ _ rfl hacc)
  have K1 : ∀ (acc : Int64) (o : Slot), Wp.ok1 o = true → own_step z (own_val z) (own_step z (own_val z) (own_step z (own_val z) acc 1) 2) 3 = own_chance z → W1 l Z a0 n0 0 0 25 [.val (.int z), .val (.int (own_val z)), .val (.long acc), .second, .val (.int 1), o] [] H Q := by
    intro acc o ho hacc
    refine Wp.iload (pc' := 27) d1_25 rfl rfl ?_
    refine Wp.iconst (3) (pc' := 28) d1_27 rfl rfl ?_
    refine Wp.icmp_gt (pt := 80) (pf := 31) d1_28 (by decide) rfl (fun hc28 => absurd hc28 (by decide)) (fun hc28 => ?_)
    refine Wp.iloadN (pc' := 32) d1_31 rfl rfl ?_
    refine Wp.iconst (1) (pc' := 33) d1_32 rfl rfl ?_
    refine Wp.iconst (3) (pc' := 34) d1_33 rfl rfl ?_
    refine Wp.iload (pc' := 36) d1_34 rfl rfl ?_
    refine Wp.isub (pc' := 37) d1_36 rfl ?_
    refine Wp.ishl (pc' := 38) d1_37 rfl ?_
    refine Wp.iand (pc' := 39) d1_38 rfl ?_
    refine Wp.if_eq (pt := 46) (pf := 42) d1_39 (by decide) rfl (fun hc39 => ?_) (fun hc39 => ?_)
    · refine Wp.iconst (0) (pc' := 47) d1_46 rfl rfl ?_
      refine Wp.istore_5 (pc' := 49) d1_47 ho rfl ?_
      refine Wp.iloadN (pc' := 50) d1_49 rfl rfl ?_
      refine Wp.iload (pc' := 52) d1_50 rfl rfl ?_
      refine Wp.isub (pc' := 53) d1_52 rfl ?_
      refine Wp.iconst (1) (pc' := 54) d1_53 rfl rfl ?_
      refine Wp.icmp_lt (pt := 74) (pf := 57) d1_54 (by decide) rfl (fun hc54 => ?_) (fun hc54 => ?_)
      · refine Wp.iinc_4 (1) (pc' := 77) d1_74 rfl rfl ?_
        refine Wp.goto (pc' := 25) d1_77 (by decide) ?_
        first | exact absurd hc59 (by decide) | (have e2 : own_step z (own_val z) acc 1 = _ := if_pos ⟨by assumption, by simp only [Int32.reduceToInt] at hc54; assumption⟩; rw [e2] at hacc; exact K2 _ _ rfl hacc) | (have e2 : own_step z (own_val z) acc 1 = _ := if_neg (by rintro ⟨q1, q2⟩; first | exact absurd q1 (by assumption) | (simp only [Int32.reduceToInt] at hc54; omega)); rw [e2] at hacc; exact K2 _ _ rfl hacc)
      · refine Wp.iload (pc' := 59) d1_57 rfl rfl ?_
        refine Wp.if_ne (pt := 74) (pf := 62) d1_59 (by decide) rfl (fun hc59 => absurd hc59 (by decide)) (fun hc59 => ?_)
        refine Wp.lloadN (pc' := 63) d1_62 rfl rfl ?_
        refine Wp.lconst (1) (pc' := 64) d1_63 rfl rfl ?_
        refine Wp.bipush (30) (pc' := 66) d1_64 rfl rfl ?_
        refine Wp.iloadN (pc' := 67) d1_66 rfl rfl ?_
        refine Wp.iload (pc' := 69) d1_67 rfl rfl ?_
        refine Wp.isub (pc' := 70) d1_69 rfl ?_
        refine Wp.isub (pc' := 71) d1_70 rfl ?_
        refine Wp.lshl (pc' := 72) d1_71 rfl ?_
        refine Wp.ladd (pc' := 73) d1_72 rfl ?_
        refine Wp.lstoreN_2 (pc' := 74) d1_73 rfl rfl ?_
        refine Wp.iinc_4 (1) (pc' := 77) d1_74 rfl rfl ?_
        refine Wp.goto (pc' := 25) d1_77 (by decide) ?_
        first | exact absurd hc59 (by decide) | (have e2 : own_step z (own_val z) acc 1 = _ := if_pos ⟨by assumption, by simp only [Int32.reduceToInt] at hc54; assumption⟩; rw [e2] at hacc; exact K2 _ _ rfl hacc) | (have e2 : own_step z (own_val z) acc 1 = _ := if_neg (by rintro ⟨q1, q2⟩; first | exact absurd q1 (by assumption) | (simp only [Int32.reduceToInt] at hc54; omega)); rw [e2] at hacc; exact K2 _ _ rfl hacc)
    · refine Wp.iconst (1) (pc' := 43) d1_42 rfl rfl ?_
      refine Wp.goto (pc' := 47) d1_43 (by decide) ?_
      refine Wp.istore_5 (pc' := 49) d1_47 ho rfl ?_
      refine Wp.iloadN (pc' := 50) d1_49 rfl rfl ?_
      refine Wp.iload (pc' := 52) d1_50 rfl rfl ?_
      refine Wp.isub (pc' := 53) d1_52 rfl ?_
      refine Wp.iconst (1) (pc' := 54) d1_53 rfl rfl ?_
      refine Wp.icmp_lt (pt := 74) (pf := 57) d1_54 (by decide) rfl (fun hc54 => ?_) (fun hc54 => ?_)
      · refine Wp.iinc_4 (1) (pc' := 77) d1_74 rfl rfl ?_
        refine Wp.goto (pc' := 25) d1_77 (by decide) ?_
        first | exact absurd hc59 (by decide) | (have e2 : own_step z (own_val z) acc 1 = _ := if_pos ⟨by assumption, by simp only [Int32.reduceToInt] at hc54; assumption⟩; rw [e2] at hacc; exact K2 _ _ rfl hacc) | (have e2 : own_step z (own_val z) acc 1 = _ := if_neg (by rintro ⟨q1, q2⟩; first | exact absurd q1 (by assumption) | (simp only [Int32.reduceToInt] at hc54; omega)); rw [e2] at hacc; exact K2 _ _ rfl hacc)
      · refine Wp.iload (pc' := 59) d1_57 rfl rfl ?_
        refine Wp.if_ne (pt := 74) (pf := 62) d1_59 (by decide) rfl (fun hc59 => ?_) (fun hc59 => absurd hc59 (by decide))
        refine Wp.iinc_4 (1) (pc' := 77) d1_74 rfl rfl ?_
        refine Wp.goto (pc' := 25) d1_77 (by decide) ?_
        first | exact absurd hc59 (by decide) | (have e2 : own_step z (own_val z) acc 1 = _ := if_pos ⟨by assumption, by simp only [Int32.reduceToInt] at hc54; assumption⟩; rw [e2] at hacc; exact K2 _ _ rfl hacc) | (have e2 : own_step z (own_val z) acc 1 = _ := if_neg (by rintro ⟨q1, q2⟩; first | exact absurd q1 (by assumption) | (simp only [Int32.reduceToInt] at hc54; omega)); rw [e2] at hacc; exact K2 _ _ rfl hacc)
  refine Wp.iloadN (pc' := 1) d1_0 rfl rfl ?_
  refine Wp.callS_1 0 (pc' := 4) (rm := rm2) (w4 hw) (w5 hw) (w2 hw) (w6 hw) (by decide) pd0 rfl d1_1 rfl rfl (by decide) (by decide) (by decide) (by decide) rfl rfl rfl ?_
  refine (con2 hw _ _).mono ?_
  rintro _ _ ⟨rfl, rfl⟩
  refine Wp.afterS ?_
  refine Wp.istoreN_1 (pc' := 5) d1_4 rfl rfl ?_
  refine Wp.iloadN (pc' := 6) d1_5 rfl rfl ?_
  refine Wp.bipush (31) (pc' := 8) d1_6 rfl rfl ?_
  refine Wp.icmp_ne (pt := 15) (pf := 11) d1_8 (by decide) rfl (fun hc8 => ?_) (fun hc8 => ?_)
  · refine Wp.lconst (1) (pc' := 16) d1_15 rfl rfl ?_
    refine Wp.bipush (30) (pc' := 18) d1_16 rfl rfl ?_
    refine Wp.iloadN (pc' := 19) d1_18 rfl rfl ?_
    refine Wp.isub (pc' := 20) d1_19 rfl ?_
    refine Wp.lshl (pc' := 21) d1_20 rfl ?_
    refine Wp.lstoreN_2 (pc' := 22) d1_21 rfl rfl ?_
    refine Wp.iconst (1) (pc' := 23) d1_22 rfl rfl ?_
    refine Wp.istore_4 (pc' := 25) d1_23 rfl rfl ?_
    refine K1 _ _ rfl ?_
    unfold own_chance own_above
    first | rw [if_pos hc8] | rw [if_neg hc8]
  · refine Wp.lconst (0) (pc' := 12) d1_11 rfl rfl ?_
    refine Wp.goto (pc' := 21) d1_12 (by decide) ?_
    refine Wp.lstoreN_2 (pc' := 22) d1_21 rfl rfl ?_
    refine Wp.iconst (1) (pc' := 23) d1_22 rfl rfl ?_
    refine Wp.istore_4 (pc' := 25) d1_23 rfl rfl ?_
    refine K1 _ _ rfl ?_
    unfold own_chance own_above
    first | rw [if_pos hc8] | rw [if_neg hc8]
theorem law_con (l : Launch) (Z : State) (a0 : Array Value) (n0 : Nat) (hw : Hw Z a0) (x : Int32) :
    C0 l Z a0 n0 #[.int x] [] (fun v _ => v = some (.int 1)) := by
  refine Wp.Con.intro pn0 (fun m => ef0 m x) ?_
  have K67 : ∀ q : Int32, q = own_valid ((x &&& 255).toUInt32 >>> ((3 : Int32) &&& 31).toUInt32).toInt32 → W0 l Z a0 n0 0 0 67 [.val (.int x), .val (.int x.toInt8.toInt32), .val (.int (x &&& 255)), .val (.int ((x &&& 255).toUInt32 >>> ((3 : Int32) &&& 31).toUInt32).toInt32), .val (.int ((x &&& 255) &&& 7)), .val (.long (own_above ((x &&& 255).toUInt32 >>> ((3 : Int32) &&& 31).toUInt32).toInt32)), .second, .unset, .unset, .unset, .unset, .unset] [.int q] [] (fun v _ => v = some (.int 1)) := by
    intro q hq
    subst hq
    refine Wp.istore_7 (pc' := 69) at_67 rfl rfl ?_
    refine Wp.iload (pc' := 71) at_69 rfl rfl ?_
    refine Wp.iconst (-1) (pc' := 72) at_71 rfl rfl ?_
    refine Wp.ixor (pc' := 73) at_72 rfl ?_
    refine Wp.bipush (7) (pc' := 75) at_73 rfl rfl ?_
    refine Wp.iand (pc' := 76) at_75 rfl ?_
    refine Wp.iload (pc' := 78) at_76 rfl rfl ?_
    refine Wp.iand (pc' := 79) at_78 rfl ?_
    refine Wp.istore_8 (pc' := 81) at_79 rfl rfl ?_
    refine Wp.iload (pc' := 83) at_81 rfl rfl ?_
    refine Wp.iconst (1) (pc' := 84) at_83 rfl rfl ?_
    refine Wp.iand (pc' := 85) at_84 rfl ?_
    refine Wp.iconst (2) (pc' := 86) at_85 rfl rfl ?_
    refine Wp.ishl (pc' := 87) at_86 rfl ?_
    refine Wp.iload (pc' := 89) at_87 rfl rfl ?_
    refine Wp.iconst (2) (pc' := 90) at_89 rfl rfl ?_
    refine Wp.iand (pc' := 91) at_90 rfl ?_
    refine Wp.ior (pc' := 92) at_91 rfl ?_
    refine Wp.iload (pc' := 94) at_92 rfl rfl ?_
    refine Wp.iconst (4) (pc' := 95) at_94 rfl rfl ?_
    refine Wp.iand (pc' := 96) at_95 rfl ?_
    refine Wp.iconst (2) (pc' := 97) at_96 rfl rfl ?_
    refine Wp.ishr (pc' := 98) at_97 rfl ?_
    refine Wp.ior (pc' := 99) at_98 rfl ?_
    refine Wp.istore_9 (pc' := 101) at_99 rfl rfl ?_
    refine Wp.lload (pc' := 103) at_101 rfl rfl ?_
    refine Wp.iload (pc' := 105) at_103 rfl rfl ?_
    refine Wp.i2l (pc' := 106) at_105 rfl ?_
    refine Wp.bipush (31) (pc' := 108) at_106 rfl rfl ?_
    refine Wp.iloadN (pc' := 109) at_108 rfl rfl ?_
    refine Wp.isub (pc' := 110) at_109 rfl ?_
    refine Wp.lshl (pc' := 111) at_110 rfl ?_
    refine Wp.ladd (pc' := 112) at_111 rfl ?_
    refine Wp.lstore_10 (pc' := 114) at_112 rfl rfl ?_
    refine Wp.iloadN (pc' := 115) at_114 rfl rfl ?_
    refine Wp.callS_1 0 (pc' := 118) (rm := rm1) (w0 hw) (w1 hw) (w2 hw) (w3 hw) (by decide) pd1 rfl at_115 rfl rfl (by decide) (by decide) (by decide) (by decide) rfl rfl rfl ?_
    refine (con1 hw _ _).mono ?_
    rintro _ _ ⟨rfl, rfl⟩
    refine Wp.afterS ?_
    refine Wp.lload (pc' := 120) at_118 rfl rfl ?_
    refine Wp.lcmp_ne (pt := 128) (pf := 124) at_120 rfl at_121 (by decide) rfl (fun hc121 => ?_) (fun hc121 => ?_)
    · exact absurd (own_all x) hc121
    · refine Wp.iconst (1) (pc' := 125) at_124 rfl rfl ?_
      refine Wp.goto (pc' := 129) at_125 (by decide) ?_
      refine Wp.zreturn rfl at_129 ?_
      rfl
  have K35 : ∀ q : Int64, q = own_above ((x &&& 255).toUInt32 >>> ((3 : Int32) &&& 31).toUInt32).toInt32 → W0 l Z a0 n0 0 0 35 [.val (.int x), .val (.int x.toInt8.toInt32), .val (.int (x &&& 255)), .val (.int ((x &&& 255).toUInt32 >>> ((3 : Int32) &&& 31).toUInt32).toInt32), .val (.int ((x &&& 255) &&& 7)), .unset, .unset, .unset, .unset, .unset, .unset, .unset] [.long q] [] (fun v _ => v = some (.int 1)) := by
    intro q hq
    subst hq
    refine Wp.lstore_5 (pc' := 37) at_35 rfl rfl ?_
    refine Wp.iloadN (pc' := 38) at_37 rfl rfl ?_
    refine Wp.iconst (1) (pc' := 39) at_38 rfl rfl ?_
    refine Wp.icmp_gt (pt := 46) (pf := 42) at_39 (by decide) rfl (fun hc39 => ?_) (fun hc39 => ?_)
    · refine Wp.iloadN (pc' := 47) at_46 rfl rfl ?_
      refine Wp.iconst (2) (pc' := 48) at_47 rfl rfl ?_
      refine Wp.icmp_ne (pt := 55) (pf := 51) at_48 (by decide) rfl (fun hc48 => ?_) (fun hc48 => ?_)
      · refine Wp.iloadN (pc' := 56) at_55 rfl rfl ?_
        refine Wp.iconst (3) (pc' := 57) at_56 rfl rfl ?_
        refine Wp.icmp_ne (pt := 65) (pf := 60) at_57 (by decide) rfl (fun hc57 => ?_) (fun hc57 => ?_)
        · refine Wp.bipush (7) (pc' := 67) at_65 rfl rfl ?_
          refine K67 _ ?_
          unfold own_valid
          simp only [Int32.reduceToInt] at hc39
          first | rw [if_pos (by omega)] | rw [if_neg (by omega), if_pos hc48] | rw [if_neg (by omega), if_neg hc48, if_pos hc57] | rw [if_neg (by omega), if_neg hc48, if_neg hc57]
        · refine Wp.bipush (6) (pc' := 62) at_60 rfl rfl ?_
          refine Wp.goto (pc' := 67) at_62 (by decide) ?_
          refine K67 _ ?_
          unfold own_valid
          simp only [Int32.reduceToInt] at hc39
          first | rw [if_pos (by omega)] | rw [if_neg (by omega), if_pos hc48] | rw [if_neg (by omega), if_neg hc48, if_pos hc57] | rw [if_neg (by omega), if_neg hc48, if_neg hc57]
      · refine Wp.iconst (4) (pc' := 52) at_51 rfl rfl ?_
        refine Wp.goto (pc' := 67) at_52 (by decide) ?_
        refine K67 _ ?_
        unfold own_valid
        simp only [Int32.reduceToInt] at hc39
        first | rw [if_pos (by omega)] | rw [if_neg (by omega), if_pos hc48] | rw [if_neg (by omega), if_neg hc48, if_pos hc57] | rw [if_neg (by omega), if_neg hc48, if_neg hc57]
    · refine Wp.iconst (0) (pc' := 43) at_42 rfl rfl ?_
      refine Wp.goto (pc' := 67) at_43 (by decide) ?_
      refine K67 _ ?_
      unfold own_valid
      simp only [Int32.reduceToInt] at hc39
      first | rw [if_pos (by omega)] | rw [if_neg (by omega), if_pos hc48] | rw [if_neg (by omega), if_neg hc48, if_pos hc57] | rw [if_neg (by omega), if_neg hc48, if_neg hc57]
  refine Wp.iloadN (pc' := 1) at_0 rfl rfl ?_
  refine Wp.i2b (pc' := 2) at_1 rfl ?_
  refine Wp.istoreN_1 (pc' := 3) at_2 rfl rfl ?_
  refine Wp.iloadN (pc' := 4) at_3 rfl rfl ?_
  refine Wp.sipush (255) (pc' := 7) at_4 rfl rfl ?_
  refine Wp.iand (pc' := 8) at_7 rfl ?_
  refine Wp.istoreN_2 (pc' := 9) at_8 rfl rfl ?_
  refine Wp.iloadN (pc' := 10) at_9 rfl rfl ?_
  refine Wp.iconst (3) (pc' := 11) at_10 rfl rfl ?_
  refine Wp.iushr (pc' := 12) at_11 rfl ?_
  refine Wp.istoreN_3 (pc' := 13) at_12 rfl rfl ?_
  refine Wp.iloadN (pc' := 14) at_13 rfl rfl ?_
  refine Wp.bipush (7) (pc' := 16) at_14 rfl rfl ?_
  refine Wp.iand (pc' := 17) at_16 rfl ?_
  refine Wp.istore_4 (pc' := 19) at_17 rfl rfl ?_
  refine Wp.iloadN (pc' := 20) at_19 rfl rfl ?_
  refine Wp.bipush (31) (pc' := 22) at_20 rfl rfl ?_
  refine Wp.icmp_ne (pt := 29) (pf := 25) at_22 (by decide) rfl (fun hc22 => ?_) (fun hc22 => ?_)
  · refine Wp.lconst (1) (pc' := 30) at_29 rfl rfl ?_
    refine Wp.bipush (30) (pc' := 32) at_30 rfl rfl ?_
    refine Wp.iloadN (pc' := 33) at_32 rfl rfl ?_
    refine Wp.isub (pc' := 34) at_33 rfl ?_
    refine Wp.lshl (pc' := 35) at_34 rfl ?_
    refine K35 _ ?_
    unfold own_above
    first | rw [if_pos hc22] | rw [if_neg hc22]
  · refine Wp.lconst (0) (pc' := 26) at_25 rfl rfl ?_
    refine Wp.goto (pc' := 35) at_26 (by decide) ?_
    refine K35 _ ?_
    unfold own_above
    first | rw [if_pos hc22] | rw [if_neg hc22]
set_option maxRecDepth 65536 in
theorem comes_1 {Post : Tables → Env → Array Value → State → Outcome → State → Prop} (hpost : ∀ tb e args s v u, (limb_1_1.after args s (.returned v) u = true ∧ limb_1_2.after args s (.returned v) u = true ∧ True) → FrameEnd s (.returned v) u (Jvm.fieldLocs frame_1_writes args s ++ Jvm.arrayLocs frame_1_arrays args s ++ Jvm.staticLocs frame_1_statics s) room_1.cells room_1.slots → Post tb e args s (.returned v) u) :
    ArmFor flags0 classFile x code maxLocals ret World_1 tables_1 room_1 Calls_1 rest_1 Pre_1 Post := by
  intro l hfl _ _ p e ha hc hk s m args below hf hA hF happ hP
  obtain ⟨hcalls, hrest, hpre⟩ := hP
  obtain ⟨-, -, -, hnamed, -, -, -, hat⟩ := (Spec.applies_iff hf).mp happ
  obtain ⟨hg, hn⟩ := and_e (Cond.before_iff.mp (show (Jvm.Cond.and given_1 narrow_1).before args s = true from hpre))
  obtain ⟨hcnt, g0⟩ := and_e hg
  obtain ⟨y0, rfl⟩ : ∃ y0 : Value, args = #[y0] := by
    have hs : args.size = 1 := by simpa [Cond.value, given_1] using hcnt
    obtain ⟨L⟩ := args
    match L, hs with
    | [y0], _ => exact ⟨y0, rfl⟩
  have hw := fun d (hd : d ∈ tables_1) => atoms_spec (ws := Jvm.Cond.code x code maxLocals ret :: tables_1) hat d (List.mem_cons_of_mem _ hd)
  obtain ⟨i0, e0⟩ := is_v g0
  obtain rfl : y0 = .int i0 := Option.some.inj e0
  obtain ⟨n, o, h1, h2, h3, v, L, rfl, ⟨N, H', hR', rfl⟩, hq⟩ := law_con l s _ s.heap.size hw i0 tables_1 s.heap ⟨Nat.le_refl _, List.nodup_nil, fun _ q => nomatch q⟩ p e ha hc hk s m _ below hf ((Spec.applies_iff_loose hf).mp happ).1 ⟨rfl, State.Warmed39.refl s, rfl⟩ trivial
  refine ⟨n, _, h1, h2, h3, hpost _ _ _ _ _ _ ⟨Cond.after_iff.mpr rfl, Cond.after_iff.mpr (eq_i res_at (Term.int_eval (1)) rfl), trivial⟩ ⟨hq.1, hq.2.1, (hq.2.2.sift fun y hy => Or.inr (N y hy)).mono (by decide) (by decide)⟩⟩
theorem main_1_1 : Claimed_1_1 := comes_1 fun _ _ _ _ _ _ h hF => ⟨h.1, hF⟩
theorem main_1_2 : Claimed_1_2 := comes_1 fun _ _ _ _ _ _ h hF => ⟨h.2.1, hF⟩
end Jvm.Pilot.@@N@@
namespace Jvm.Pilot.@@N@@
open Jvm Jvm.ClassFile Sem Op Lib Jvm.Free Jvm.Stand Jvm.Pilot.@@N@@.Jvm.D
/-! MADE BY PROGRAM (witnessworld.py) out of the Statement's table words and the real class files: 9 classes; the members and pool entries that the words name. The judged class is class 1, her method 1. -/
namespace start1
open Jvm.ClassFile
def u (s : String) : CpInfo := .utf8 (stringToUtf16 s)
/-- a pool by its gaps: so many unusable entries, then the entry; so many at the end -/
def gap : Nat → List CpInfo → List CpInfo
  | 0, r => r
  | n + 1, r => .unusable :: gap n r
def poolList (es : List (Nat × CpInfo)) (last : Nat) : List CpInfo := es.foldr (fun e r => gap e.1 (e.2 :: r)) (gap last [])
def pool (es : List (Nat × CpInfo)) (last : Nat) : Array CpInfo := ⟨poolList es last⟩
def fileOf (pool : Array CpInfo) (this : Nat) (attrs : Array Attribute := #[]) (ms : Array MethodInfo := #[]) (fl : Nat := 33) (sup : Nat := 0) (ifs : Array Nat := #[]) (fds : Array FieldInfo := #[]) : ClassFile where
  minorVersion := 0
  majorVersion := 65
  constantPool := pool
  accessFlags := fl
  thisClass := this
  superClass := sup
  interfaces := ifs
  fields := fds
  methods := ms
  attributes := attrs
def plain (name : String) (sup : Option ClassId) : Class where
  name := name
  kind := .ordinary
  loader := none
  accessFlags := 33
  super := sup
  interfaces := #[]
  cf := none
  fields := #[]
  methods := #[]
  instanceTypes := #[]
  staticTypes := #[]
  resolved := #[]
  callSites := []
  init := .initialized
  statics := none
  mirror := none

def pool0 : Array CpInfo := pool [(5, u "<init>"), (0, u "()V"), (1, .class_ 10), (1, u "java/lang/Object")] 113

def k0m0 : Method := { name := "<init>", desc := "()V", sig := { parameters := [], returnType := none }, accessFlags := 1, code := none }
/-- java/lang/Object -/
def k0 : Class := { plain "java/lang/Object" none with
  accessFlags := 33
  interfaces := #[]
  cf := some (fileOf pool0 8 #[] #[{ accessFlags := 1, nameIndex := 5, descriptorIndex := 6, attributes := #[] }] 33 0 #[] #[])
  fields := #[]
  methods := #[k0m0]
  instanceTypes := #[]
  staticTypes := #[]
  resolved := Array.replicate 124 none
  statics := none }

def pool1 : Array CpInfo := pool [(2, .class_ 4), (1, u "java/lang/Object"), (0, u "<init>"), (0, u "()V"), (0, .methodref 8 9), (0, .class_ 10), (0, .nameAndType 11 12), (0, u "com/example/indizio/indizio/distinct/Register"), (0, u "chance"), (0, u "(B)J"), (0, .class_ 14), (0, u "com/example/indizio/indizio/distinct/RegisterChancePinLaw"), (2, u "law"), (0, u "(I)Z")] 3

def k1m0 : Method := { name := "<init>", desc := "()V", sig := { parameters := [], returnType := none }, accessFlags := 1, code := none }
def k1c1 : Code := { maxStack := 6, maxLocals := 12, code := code, exceptionTable := #[], attributes := #[] }
def k1m1 : Method := { name := "law", desc := "(I)Z", sig := { parameters := [.int], returnType := some .boolean }, accessFlags := 9, code := some k1c1 }
/-- com/example/indizio/indizio/distinct/RegisterChancePinLaw -/
def k1 : Class := { plain "com/example/indizio/indizio/distinct/RegisterChancePinLaw" (some 0) with
  accessFlags := 49
  interfaces := #[]
  cf := some (fileOf pool1 13 #[] #[{ accessFlags := 1, nameIndex := 5, descriptorIndex := 6, attributes := #[] }, { accessFlags := 9, nameIndex := 17, descriptorIndex := 18, attributes := #[] }] 49 2 #[] #[])
  fields := #[]
  methods := #[k1m0, k1m1]
  instanceTypes := #[]
  staticTypes := #[]
  resolved := Array.replicate 22 none
  statics := none }

def pool2 : Array CpInfo := pool [(1, .class_ 2), (0, u "com/example/indizio/indizio/distinct/Register"), (1, .class_ 6), (1, u "java/lang/Object"), (0, u "<init>"), (0, u "()V"), (3, u "(B)I"), (6, .methodref 1 20), (0, .nameAndType 21 12), (0, u "value"), (15, u "VALUE_BITS"), (0, u "I"), (2, u "MAX_VALUE"), (1, u "STATES"), (1, u "BELOW"), (12, u "chance"), (0, u "(B)J")] 2

def k2m0 : Method := { name := "<init>", desc := "()V", sig := { parameters := [], returnType := none }, accessFlags := 2, code := none }
def k2c1 : Code := { maxStack := 2, maxLocals := 1, code := prog_5_method_2_code, exceptionTable := #[], attributes := #[] }
def k2m1 : Method := { name := "value", desc := "(B)I", sig := { parameters := [.byte], returnType := some .int }, accessFlags := 8, code := some k2c1 }
def k2c2 : Code := { maxStack := 7, maxLocals := 6, code := prog_5_method_8_code, exceptionTable := #[], attributes := #[] }
def k2m2 : Method := { name := "chance", desc := "(B)J", sig := { parameters := [.byte], returnType := some .long }, accessFlags := 8, code := some k2c2 }
/-- com/example/indizio/indizio/distinct/Register -/
def k2 : Class := { plain "com/example/indizio/indizio/distinct/Register" (some 0) with
  accessFlags := 32
  interfaces := #[]
  cf := some (fileOf pool2 1 #[] #[{ accessFlags := 2, nameIndex := 7, descriptorIndex := 8, attributes := #[] }, { accessFlags := 8, nameIndex := 21, descriptorIndex := 12, attributes := #[] }, { accessFlags := 8, nameIndex := 58, descriptorIndex := 59, attributes := #[] }] 32 4 #[] #[{ accessFlags := 24, nameIndex := 37, descriptorIndex := 38, attributes := #[] }, { accessFlags := 24, nameIndex := 41, descriptorIndex := 38, attributes := #[] }, { accessFlags := 24, nameIndex := 43, descriptorIndex := 38, attributes := #[] }, { accessFlags := 26, nameIndex := 45, descriptorIndex := 38, attributes := #[] }])
  fields := #[{ name := "VALUE_BITS", type := .int, accessFlags := 24, slot := 0, constantValue := 0 }, { name := "MAX_VALUE", type := .int, accessFlags := 24, slot := 1, constantValue := 0 }, { name := "STATES", type := .int, accessFlags := 24, slot := 2, constantValue := 0 }, { name := "BELOW", type := .int, accessFlags := 26, slot := 3, constantValue := 0 }]
  methods := #[k2m0, k2m1, k2m2]
  instanceTypes := #[]
  staticTypes := #[.int, .int, .int, .int]
  resolved := Array.replicate 62 none
  statics := none }

def pool3 : Array CpInfo := pool [(1, u "java/lang/Cloneable"), (0, .class_ 1), (0, u "java/lang/Object"), (0, .class_ 3)] 3

/-- java/lang/Cloneable -/
def k3 : Class := { plain "java/lang/Cloneable" (some 0) with
  accessFlags := 1537
  interfaces := #[]
  cf := some (fileOf pool3 2 #[] #[] 1537 4 #[] #[])
  fields := #[]
  methods := #[]
  instanceTypes := #[]
  staticTypes := #[]
  resolved := Array.replicate 8 none
  statics := none }

def pool4 : Array CpInfo := pool [(1, u "java/io/Serializable"), (0, .class_ 1), (0, u "java/lang/Object"), (0, .class_ 3)] 3

/-- java/io/Serializable -/
def k4 : Class := { plain "java/io/Serializable" (some 0) with
  accessFlags := 1537
  interfaces := #[]
  cf := some (fileOf pool4 2 #[] #[] 1537 4 #[] #[])
  fields := #[]
  methods := #[]
  instanceTypes := #[]
  staticTypes := #[]
  resolved := Array.replicate 8 none
  statics := none }

/-- the primitive byte -/
def k5 : Class := { plain "byte" none with kind := .primitive 'B', accessFlags := 0x411 }
/-- [B -/
def k6 : Class := { plain "[B" (some 0) with kind := .array 5 .byte, interfaces := #[3, 4], accessFlags := 1041 }

/-- the primitive int -/
def k7 : Class := { plain "int" none with kind := .primitive 'I', accessFlags := 0x411 }
/-- [I -/
def k8 : Class := { plain "[I" (some 0) with kind := .array 7 .int, interfaces := #[3, 4], accessFlags := 1041 }

def heap : Heap := #[]
def classes : Array Class := #[k0, k1, k2, k3, k4, k5, k6, k7, k8]
def interned : List (Array UInt16 × Addr) := []
def slotsUsed : Nat := 0
def theMethod : MethodId := ⟨1, 1⟩
def args0 : Array Value := #[.int 5]
def aboutOver (below : List Frame) : State where
  vm := { classes := classes, interned := interned.toArray }
  heap := heap
  slotsUsed := slotsUsed
  threads := #[{ frames := .invoking theMethod args0 :: below }]
def below0 : List Frame := [.native { method := ⟨0, 0⟩, args := #[] }]
def about1 : State := aboutOver below0
def p0 : Program := .bare "" "" ""
def e0 : Env := launch0.env 0 0 0
theorem w_frames : about1.frames = Frame.invoking theMethod args0 :: below0 := rfl
set_option maxRecDepth 65536 in
theorem w_args : argsFit about1.vm theMethod args0 = true := by decide +kernel
set_option maxRecDepth 65536 in
theorem w_heap : heapFits about1 = true := by decide +kernel
set_option maxRecDepth 65536 in
theorem w_runnable : about1.curStatus? = some .runnable := by decide +kernel
set_option maxRecDepth 65536 in
theorem w_alone : about1.alone = true := by decide +kernel
set_option maxRecDepth 65536 in
theorem w_named : about1.methodNamed? x = some theMethod := by decide +kernel
set_option maxRecDepth 65536 in
theorem w_hears : about1.hears theMethod below0 = true := by decide +kernel
set_option maxRecDepth 65536 in
theorem w_ripe : about1.ripe theMethod args0 below0 = true := by decide +kernel
theorem w_running : about1.status = .running := rfl
set_option maxRecDepth 65536 in
theorem w_room : about1.hasRoom e0.platform room_1 = true :=
  launch0.hasRoom_least _ room_1 (by decide +kernel) (by decide +kernel) (by decide +kernel) (by decide +kernel) (by decide +kernel) (by decide +kernel)
theorem allAtoms_all (ts : List Jvm.Cond) (a : Array Jvm.Value) (st : Jvm.State) : (allAtoms ts).before a st = ts.all (fun c => c.before a st) := by
  induction ts with
  | nil => rfl
  | cons c t ih =>
    show (Jvm.Cond.and c (allAtoms t)).before a st = _
    rw [Jvm.Cond.before_and, ih, List.all_cons]
def words1 : List Jvm.Cond := Jvm.Cond.code x code maxLocals ret :: tables_1
/-- a 'code' word, met by the world's own term for the bytes: nothing is compared byte by byte -/
theorem code_word {y : MethodName} {bytes : ByteArray} {mx : Nat} {rt : Option FieldType} {a : Array Value} {s : State} {m : MethodId} {meth : Method} {c : Code} (h1 : s.methodNamed? y = some m) (h2 : s.vm.method? m = some meth) (h3 : meth.code = some c) (h4 : c.code = bytes)
    (h5 : (c.maxLocals == mx && c.exceptionTable.isEmpty && decide (c.maxStack ≤ mostOperands) && decide (meth.sig.returnType = rt) && !meth.locks && decide (parseMethodDescriptor y.desc = some meth.sig)) = true) : (Jvm.Cond.code y bytes mx rt).before a s = true := by
  simp only [Bool.and_eq_true, beq_iff_eq, Bool.not_eq_true', decide_eq_true_eq] at h5
  obtain ⟨⟨⟨⟨⟨g1, g2⟩, g3⟩, g4⟩, g5⟩, g6⟩ := h5
  simp [Cond.before, Cond.holds, Cond.value, h1, h2, h3, h4, g1, g2, g3, g4, g5, g6]
def isCode : Jvm.Cond → Bool
  | .code _ _ _ _ => true
  | _ => false
theorem all_split {L : List Jvm.Cond} {P : Jvm.Cond → Bool} (h1 : L.all (fun c => isCode c || P c) = true) (h2 : ∀ c ∈ L.filter isCode, P c = true) : L.all P = true := by
  refine List.all_eq_true.mpr fun c hc => ?_
  have h := List.all_eq_true.mp h1 c hc
  rcases Bool.eq_false_or_eq_true (isCode c) with hi | hi
  · exact h2 c (List.mem_filter.mpr ⟨hc, hi⟩)
  · simpa [hi] using h
set_option maxRecDepth 65536 in
theorem w_c0 : (Jvm.Cond.code x code maxLocals ret).before args0 about1 = true := code_word (m := ⟨1, 1⟩) (meth := k1m1) (c := k1c1) (by decide +kernel) rfl rfl rfl (by decide +kernel)
set_option maxRecDepth 65536 in
theorem w_c1 : (Jvm.Cond.code ({ cls := "com/example/indizio/indizio/distinct/Register", name := "chance", desc := "(B)J" } : Jvm.MethodName) prog_5_method_8_code (6 : Nat) (Option.some Jvm.ClassFile.FieldType.long)).before args0 about1 = true := code_word (m := ⟨2, 2⟩) (meth := k2m2) (c := k2c2) (by decide +kernel) rfl rfl rfl (by decide +kernel)
set_option maxRecDepth 65536 in
theorem w_c2 : (Jvm.Cond.code ({ cls := "com/example/indizio/indizio/distinct/Register", name := "value", desc := "(B)I" } : Jvm.MethodName) prog_5_method_2_code (1 : Nat) (Option.some Jvm.ClassFile.FieldType.int)).before args0 about1 = true := code_word (m := ⟨2, 1⟩) (meth := k2m1) (c := k2c1) (by decide +kernel) rfl rfl rfl (by decide +kernel)
def codes1 : List Jvm.Cond := [Jvm.Cond.code x code maxLocals ret, Jvm.Cond.code ({ cls := "com/example/indizio/indizio/distinct/Register", name := "chance", desc := "(B)J" } : Jvm.MethodName) prog_5_method_8_code (6 : Nat) (Option.some Jvm.ClassFile.FieldType.long), Jvm.Cond.code ({ cls := "com/example/indizio/indizio/distinct/Register", name := "value", desc := "(B)I" } : Jvm.MethodName) prog_5_method_2_code (1 : Nat) (Option.some Jvm.ClassFile.FieldType.int)]
set_option maxRecDepth 65536 in
theorem codes_eq : words1.filter isCode = codes1 := rfl
theorem w_codes : ∀ c ∈ words1.filter isCode, c.before args0 about1 = true := by
  rw [codes_eq]
  intro c hc
  simp only [codes1, List.mem_cons, List.not_mem_nil, or_false] at hc
  rcases hc with rfl | rfl | rfl
  · exact w_c0
  · exact w_c1
  · exact w_c2
set_option maxRecDepth 65536 in
theorem w_t1 : words1.all (fun c => isCode c || c.before args0 about1) = true := by decide +kernel
theorem w_tables : (allAtoms (Jvm.Cond.code x code maxLocals ret :: tables_1)).before args0 about1 = true := by
  rw [allAtoms_all]
  show words1.all (fun c => c.before args0 about1) = true
  refine all_split ?_ w_codes
  rw [w_t1]
set_option maxRecDepth 65536 in
theorem w_case : (Jvm.Cond.and given_1 narrow_1).before args0 about1 = true := by decide +kernel
theorem w_applies : (headSpec (Jvm.Cond.code x code maxLocals ret :: tables_1) room_1).applies x e0.platform about1 = true :=
  (Spec.applies_iff w_frames).mpr ⟨w_running, w_runnable, w_alone, w_named, w_hears, w_ripe, w_room, w_tables⟩
theorem atStart : AtStart classFile x code maxLocals ret World_1 tables_1 room_1 Calls_1 rest_1 Pre_1 launch0 p0 e0 about1 theMethod args0 below0 :=
  ⟨lists_1, trivial, launch0.admits_env _ _ _, launch0.least_env, fairChoices_fair.cas, fairChoices_fair.clock, w_frames, w_args, w_heap, w_applies, trivial, trivial, w_case⟩
end start1
theorem witness_1 : WitnessClaimed_1 := ⟨start1.p0, start1.e0, start1.about1, start1.theMethod, start1.args0, start1.below0, start1.atStart⟩
end Jvm.Pilot.@@N@@
