import JvmDerived
import JvmDerived.Pilot.@@N@@Statement
import JvmDerived.Pilot.@@N@@Code
set_option linter.unusedVariables false
set_option linter.unusedSimpArgs false
namespace Jvm.RoadKit
open Sem ClassFile Op Lib Jvm.Stand Jvm.Free Jvm.LawKit
section New
variable {p : Program} {l : Launch} {e : Env} {R : Room} {s : State} {m : MethodId} {args : Array Value} {below : List Frame} {meth : Method} {c : Code} {T : State} {locs : List Loc} {cells slots : Nat}
theorem retI (X : Stand p l e R s m args below meth c T locs cells slots) (hx : p.tables.exec = Jvm.exec) {pc : Nat} {Ls : Array Slot} {z : Int32} {rest : List Value} (hret : meth.sig.returnType = some .int) (hd : decode c.code pc = .ok (.ireturn, 1)) {fs : List Frame}
    (hl : ∀ (f : JFrame) (acts : List Action), f.method = m → f.locked = none → f.entered = [] → (doReturn e (T.setTop f) acts (some (.int z))).1 = T.setFrames fs) : Steps p.tables e below (T.setTop (mkF m pc Ls (.int z :: rest))) (T.setFrames fs) := by
  have hm' : T.vm.method? m = some meth := X.method'
  have hn : narrow .int (.int z) = .int z := rfl
  show Steps p.tables e below (T.setTop { method := m, pc := pc, locals := Ls, stack := _ :: rest, locked := none }) _
  jvm_step X.here [X.here.top, hx, hd, hm', hret, hn]
  first | (intro acts; rw [hl _ acts rfl rfl rfl]) | rw [hl _ _ rfl rfl rfl]
  exact Steps.refl _
end New
end Jvm.RoadKit
namespace Jvm.Wp
open Sem ClassFile Op Lib Jvm.Free Jvm.Stand Jvm.LawKit Jvm.RoadKit

/-- a cell of the walk's own small heap: an array (its kind, its values) or an object (its class, its fields: name, descriptor, value) -/
abbrev MC : Type := Sum (FieldType × List Value) (String × List (String × String × Value))
abbrev MH : Type := List (Addr × MC)
def COk (Z : State) (a0 : Array Value) (h : Heap) (a : Addr) : MC → Prop
  | .inl (ty, vs) => ∃ c : Cell, Arr Z h a c ty ∧ c.slots = vs.toArray ∧ vs.length < 2 ^ 31
  | .inr (C, fs) => Exa Z h a C ∧ (fs.map (·.1)).Nodup ∧ ∀ x ∈ fs, Fld Z h a C x.1 x.2.1 x.2.2 ∧ Laid Z a0 C C x.1 x.2.1 ∧ ∃ t, parseFieldDescriptor x.2.1 = some t
def Rel (Z : State) (a0 : Array Value) (n0 : Nat) (H : MH) (h : Heap) : Prop := n0 ≤ h.size ∧ (H.map (·.1)).Nodup ∧ ∀ x ∈ H, n0 ≤ x.1 ∧ COk Z a0 h x.1 x.2

/-- from pc on, with these locals, this stack, this small heap: the method returns, and Q holds of what it returns and of the small heap at the end -/
def WP (l : Launch) (Z : State) (a0 : Array Value) (n0 : Nat) (R : Room) (y : MethodName) (code : ByteArray) (mx : Nat) (ret : Option FieldType) (cells slots pc : Nat) (Ls : List Slot) (st : List Value) (H : MH) (Q : Option Value → MH → Prop) : Prop :=
  ∀ (p : Program) (e : Env) (s : State) (m : MethodId) (args : Array Value) (below : List Frame) (meth : Method) (c : Code) (T : State) (locs : List Loc),
    Stand p l e R s m args below meth c T locs cells slots → p.tables.exec = Jvm.exec → Z.Warmed39 s.vm → c.code = code → c.maxLocals = mx → s.vm.findClass y.cls = some m.cls → meth.name = y.name → meth.sig.returnType = ret → meth.locks = false →
    Fr n0 locs → Rel Z a0 n0 H T.heap → cells ≤ R.cells → slots ≤ R.slots →
    ∃ v H' L s₂, Steps p.tables e below (T.setTop (mkF m pc ⟨Ls⟩ st)) s₂ ∧ s₂.status = .running ∧ Ended s₂ below (.returned v) ∧ Fr n0 L ∧ Rel Z a0 n0 H' s₂.heap ∧ Q v H' ∧ s.WarmedH s₂.vm ∧ s.sameButNew ({ s₂ with vm := s.vm } : State) L R.cells R.slots
/-- a method's contract: called with these arguments over this small heap it returns, and Q holds -/
def Con (l : Launch) (Z : State) (a0 : Array Value) (n0 : Nat) (y : MethodName) (code : ByteArray) (mx : Nat) (ret : Option FieldType) (rm : Room) (as : Array Value) (H : MH) (Q : Option Value → MH → Prop) : Prop :=
  ∀ (ws : List Cond) (h0 : Heap), Rel Z a0 n0 H h0 → MetFree l y (head1 (Cond.code y code mx ret :: ws) rm) (fun a U => a = as ∧ Z.Warmed39 U.vm ∧ U.heap = h0) (fun _ _ _ _ _ => True)
    (fun _ U o U' => ∃ v L, o = .returned v ∧ (Fr n0 L ∧ ∃ H', Rel Z a0 n0 H' U'.heap ∧ Q v H') ∧ FrameEnd U o U' L rm.cells rm.slots)

variable {l : Launch} {Z : State} {a0 : Array Value} {n0 : Nat} {R : Room} {y : MethodName} {code : ByteArray} {mx : Nat} {ret : Option FieldType} {cells slots pc : Nat} {Ls : List Slot} {st : List Value} {H : MH} {Q : Option Value → MH → Prop}

theorem Con.intro {rm : Room} {as : Array Value} (hpn : plainName y.cls = true) (hE : ∀ m, entryFrame m as mx = mkF m 0 ⟨Ls⟩ []) (h : WP l Z a0 n0 rm y code mx ret 0 0 0 Ls [] H Q) : Con l Z a0 n0 y code mx ret rm as H Q := by
  intro ws h0 hR
  refine MetFree.of_bodySF (plainFor_of_name hpn) hisR ?_
  intro p e s m args below meth c s₁ Bd hml0 hP hK
  obtain ⟨rfl, hZ, hh⟩ := hP
  have e0 : s₁.heap = h0 := by rw [← hh, Bd.state]; rfl
  obtain ⟨v, H', L, s2, k1, k2, k3, k4, k5, k6, k7, k8⟩ := h p e s m _ below meth c s₁ [] (Stand.of_body Bd) Bd.exec hZ Bd.bytes hml0 (findClass_of_methodNamed Bd.named) (name_of_methodNamed Bd.named Bd.method).1 Bd.returns Bd.notSynchronized (Fr.nil n0) (by rw [e0]; exact hR) (Nat.zero_le _) (Nat.zero_le _)
  exact ⟨s2, _, castTop (hE m) k1, k2, k3, v, L, rfl, ⟨k4, H', k5, k6⟩, ⟨_, rfl⟩, k7, k8⟩
theorem Con.mono {rm : Room} {as : Array Value} {Q' : Option Value → MH → Prop} (h : Con l Z a0 n0 y code mx ret rm as H Q) (k : ∀ v H', Q v H' → Q' v H') : Con l Z a0 n0 y code mx ret rm as H Q' := by
  intro ws h0 hR p e ha hc hk s m args below hf happ hP hK
  obtain ⟨n, o, q1, q2, q3, v, L, q4, ⟨q5, H', q6, q7⟩, q8⟩ := h ws h0 hR p e ha hc hk s m args below hf happ hP hK
  exact ⟨n, o, q1, q2, q3, v, L, q4, ⟨q5, H', q6, k _ _ q7⟩, q8⟩
theorem WP.mono {Q' : Option Value → MH → Prop} (h : WP l Z a0 n0 R y code mx ret cells slots pc Ls st H Q) (k : ∀ v H', Q v H' → Q' v H') : WP l Z a0 n0 R y code mx ret cells slots pc Ls st H Q' := by
  intro p e s m args below meth c T locs X hx hZ hc hm ho hn hr hl hF hR g1 g2
  obtain ⟨v, H', L, s2, k1, k2, k3, k4, k5, k6, k7⟩ := h p e s m args below meth c T locs X hx hZ hc hm ho hn hr hl hF hR g1 g2
  exact ⟨v, H', L, s2, k1, k2, k3, k4, k5, k _ _ k6, k7⟩

/-- a step that moves the frame alone -/
theorem pure {pc' : Nat} {Ls' : List Slot} {st' : List Value}
    (h : ∀ (p : Program) (e : Env) (m : MethodId) (below : List Frame) (c : Code) (T target : State), At T m c below → p.tables.exec = Jvm.exec → c.code = code → Steps p.tables e below (T.setTop (mkF m pc' ⟨Ls'⟩ st')) target → Steps p.tables e below (T.setTop (mkF m pc ⟨Ls⟩ st)) target)
    (k : WP l Z a0 n0 R y code mx ret cells slots pc' Ls' st' H Q) : WP l Z a0 n0 R y code mx ret cells slots pc Ls st H Q := by
  intro p e s m args below meth c T locs X hx hZ hc hm ho hn hr hl hF hR g1 g2
  obtain ⟨v, H', L, s2, k1, k2⟩ := k p e s m args below meth c T locs X hx hZ hc hm ho hn hr hl hF hR g1 g2
  exact ⟨v, H', L, s2, h p e m below c T s2 X.here hx hc k1, k2⟩
/-- a step that hands back a new state over the same heap -/
theorem stepT {pc' : Nat} {Ls' : List Slot} {st' : List Value}
    (h : ∀ (p : Program) (e : Env) (s : State) (m : MethodId) (args : Array Value) (below : List Frame) (meth : Method) (c : Code) (T : State) (locs : List Loc), Stand p l e R s m args below meth c T locs cells slots → p.tables.exec = Jvm.exec → Z.Warmed39 s.vm → c.code = code → c.maxLocals = mx → s.vm.findClass y.cls = some m.cls → Rel Z a0 n0 H T.heap →
      ∃ T', Stand p l e R s m args below meth c T' locs cells slots ∧ T'.heap = T.heap ∧ ∀ target, Steps p.tables e below (T'.setTop (mkF m pc' ⟨Ls'⟩ st')) target → Steps p.tables e below (T.setTop (mkF m pc ⟨Ls⟩ st)) target)
    (k : WP l Z a0 n0 R y code mx ret cells slots pc' Ls' st' H Q) : WP l Z a0 n0 R y code mx ret cells slots pc Ls st H Q := by
  intro p e s m args below meth c T locs X hx hZ hc hm ho hn hr hl hF hR g1 g2
  obtain ⟨T', X', e', st⟩ := h p e s m args below meth c T locs X hx hZ hc hm ho hR
  obtain ⟨v, H', L, s2, k1, k2⟩ := k p e s m args below meth c T' locs X' hx hZ hc hm ho hn hr hl hF (by rw [e']; exact hR) g1 g2
  exact ⟨v, H', L, s2, st _ k1, k2⟩
theorem lloadN {k : Fin 4} {v : Int64} {pc' : Nat} (hd : decode code pc = .ok (.lload_n k, 1)) (hl : Ls[k.val]? = some (.val (.long v))) (hp : pc + 1 = pc') (w : WP l Z a0 n0 R y code mx ret cells slots pc' Ls (.long v :: st) H Q) : WP l Z a0 n0 R y code mx ret cells slots pc Ls st H Q := by
  subst hp
  exact pure (fun p e m below c T t h hx hc hs => XS.lloadN h hx rfl (hb hc hd) (by simpa using hl) hs) w
theorem iconst {i : Int} (n : Int32) {pc' : Nat} (hd : decode code pc = .ok (.iconst i, 1)) (hn : Int32.ofInt i = n) (hp : pc + 1 = pc') (w : WP l Z a0 n0 R y code mx ret cells slots pc' Ls (.int n :: st) H Q) : WP l Z a0 n0 R y code mx ret cells slots pc Ls st H Q := by
  subst hp hn
  exact pure (fun p e m below c T t h hx hc hs => XS.iconst h hx rfl (hb hc hd) hs) w
theorem bipush {i : Int} (n : Int32) {pc' : Nat} (hd : decode code pc = .ok (.bipush i, 2)) (hn : (Int8.ofInt i).toInt32 = n) (hp : pc + 2 = pc') (w : WP l Z a0 n0 R y code mx ret cells slots pc' Ls (.int n :: st) H Q) : WP l Z a0 n0 R y code mx ret cells slots pc Ls st H Q := by
  subst hp hn
  exact pure (fun p e m below c T t h hx hc hs => XS.bipush h hx rfl (hb hc hd) hs) w
theorem lsub {x z : Int64} {pc' : Nat} (hd : decode code pc = .ok (.lsub, 1)) (hp : pc + 1 = pc') (w : WP l Z a0 n0 R y code mx ret cells slots pc' Ls (.long (x - z) :: st) H Q) : WP l Z a0 n0 R y code mx ret cells slots pc Ls (.long z :: .long x :: st) H Q := by
  subst hp
  exact pure (fun p e m below c T t h hx hc hs => XS.lsub h hx rfl (hb hc hd) rfl hs) w
theorem lmul {x z : Int64} {pc' : Nat} (hd : decode code pc = .ok (.lmul, 1)) (hp : pc + 1 = pc') (w : WP l Z a0 n0 R y code mx ret cells slots pc' Ls (.long (x * z) :: st) H Q) : WP l Z a0 n0 R y code mx ret cells slots pc Ls (.long z :: .long x :: st) H Q := by
  subst hp
  exact pure (fun p e m below c T t h hx hc hs => XS.lmul h hx rfl (hb hc hd) rfl hs) w
theorem lxor {x z : Int64} {pc' : Nat} (hd : decode code pc = .ok (.lxor, 1)) (hp : pc + 1 = pc') (w : WP l Z a0 n0 R y code mx ret cells slots pc' Ls (.long (x ^^^ z) :: st) H Q) : WP l Z a0 n0 R y code mx ret cells slots pc Ls (.long z :: .long x :: st) H Q := by
  subst hp
  exact pure (fun p e m below c T t h hx hc hs => XS.lxor h hx rfl (hb hc hd) rfl hs) w
theorem lushr {x : Int64} {z : Int32} {pc' : Nat} (hd : decode code pc = .ok (.lushr, 1)) (hp : pc + 1 = pc') (w : WP l Z a0 n0 R y code mx ret cells slots pc' Ls (.long ((x.toUInt64 >>> (z &&& 0x3f).toInt64.toUInt64).toInt64) :: st) H Q) : WP l Z a0 n0 R y code mx ret cells slots pc Ls (.int z :: .long x :: st) H Q := by
  subst hp
  exact pure (fun p e m below c T t h hx hc hs => XS.lushr h hx rfl (hb hc hd) rfl hs) w
theorem lcmp {x z : Int64} {pc' : Nat} (hd : decode code pc = .ok (.lcmp, 1)) (hp : pc + 1 = pc') (w : WP l Z a0 n0 R y code mx ret cells slots pc' Ls (.int (lcmpW x z) :: st) H Q) : WP l Z a0 n0 R y code mx ret cells slots pc Ls (.long z :: .long x :: st) H Q := by
  subst hp
  exact pure (fun p e m below c T t h hx hc hs => XS.lcmp h hx rfl (hb hc hd) rfl hs) w
theorem goto {o : Int} {pc' : Nat} (hd : decode code pc = .ok (.goto o, 3)) (hp : (pc : Int) + o = (pc' : Int)) (w : WP l Z a0 n0 R y code mx ret cells slots pc' Ls st H Q) : WP l Z a0 n0 R y code mx ret cells slots pc Ls st H Q :=
  pure (fun p e m below c T t h hx hc hs => XS.goto h hx rfl (pc0 := pc) (pc' := pc') rfl (hb hc hd) (by omega) (by omega) hs) w
theorem hI_ne {x z : Int32} : (if_icmp.holds .ne x z = true → ¬ x = z) ∧ (if_icmp.holds .ne x z = false → x = z) := by
  constructor <;> intro hq <;> simp [if_icmp.holds, Int32.lt_iff_toInt_lt, Int32.le_iff_toInt_le] at hq ⊢ <;> first | omega | exact hq | simp_all
theorem hZ_ne {x : Int32} : (ifCond.holds .ne x = true → ¬ x = 0) ∧ (ifCond.holds .ne x = false → x = 0) := by
  rw [if0]
  exact hI_ne (z := 0)
theorem if_ne {x : Int32} {o : Int} {pt pf : Nat} (hd : decode code pc = .ok (.ifCond .ne o, 3)) (hp : (pc : Int) + o = (pt : Int)) (hq : pc + 3 = pf) (wt : ¬ x = 0 → WP l Z a0 n0 R y code mx ret cells slots pt Ls st H Q) (wf : x = 0 → WP l Z a0 n0 R y code mx ret cells slots pf Ls st H Q) : WP l Z a0 n0 R y code mx ret cells slots pc Ls (.int x :: st) H Q := by
  subst hq
  cases hh : ifCond.holds .ne x
  · exact pure (fun p e m below c T t h hx hc hs => XS.ifNo h hx rfl (hb hc hd) rfl hh hs) (wf (hZ_ne.2 hh))
  · exact pure (fun p e m below c T t h hx hc hs => XS.ifYes h hx rfl (pc0 := pc) (pc' := pt) rfl (hb hc hd) rfl hh (by omega) (by omega) hs) (wt (hZ_ne.1 hh))
theorem lcmp_ne {x z : Int64} {o : Int} {pt pf p1 : Nat} (hd : decode code pc = .ok (.lcmp, 1)) (h1 : pc + 1 = p1) (he : decode code p1 = .ok (.ifCond .ne o, 3)) (hp : (p1 : Int) + o = (pt : Int)) (hq : p1 + 3 = pf) (wt : ¬ x = z → WP l Z a0 n0 R y code mx ret cells slots pt Ls st H Q) (wf : x = z → WP l Z a0 n0 R y code mx ret cells slots pf Ls st H Q) : WP l Z a0 n0 R y code mx ret cells slots pc Ls (.long z :: .long x :: st) H Q :=
  lcmp hd h1 (if_ne he hp hq (fun q => wt (fun e => q ((lw_eq x z).mpr e))) fun q => wf ((lw_eq x z).mp q))
def ok1 : Slot → Bool
  | .unset => true
  | .val v => v.category == 1
  | .second => false
def ok2 : Slot → Slot → Bool
  | .val (.long _), .second => true
  | a, b => ok1 a && ok1 b
theorem stl2 (pre : List Slot) {o o' : Slot} {t : List Slot} {x : Int64} (ho : ok2 o o' = true) : storeLocals ⟨pre ++ o :: o' :: t⟩ pre.length (.long x) = some ⟨pre ++ .val (.long x) :: .second :: t⟩ := by
  have hg : (⟨pre ++ o :: o' :: t⟩ : Array Slot)[pre.length]? = some o := by simp
  have hs : ∀ q : Slot, (∀ w, q = .val w → w.category = 1) → storeSelf (⟨pre ++ o :: q :: t⟩ : Array Slot) pre.length (.long x) = some ⟨pre ++ .val (.long x) :: .second :: t⟩ := by
    intro q hq
    have e1 : setAt (⟨pre ++ o :: q :: t⟩ : Array Slot) pre.length (.val (.long x)) = some ⟨pre ++ .val (.long x) :: q :: t⟩ := by simp [setAt, Array.setIfInBounds]
    have e2 : (⟨pre ++ .val (.long x) :: q :: t⟩ : Array Slot)[pre.length + 1]? = some q := by simp
    have e3 : setAt (⟨pre ++ .val (.long x) :: q :: t⟩ : Array Slot) (pre.length + 1) .second = some ⟨pre ++ .val (.long x) :: .second :: t⟩ := by
      simp [setAt, Array.setIfInBounds]
    cases q with
    | unset => simp only [storeSelf, e1]; simp [Value.category, e2, e3]
    | second => simp only [storeSelf, e1]; simp [Value.category, e2, e3]
    | val w =>
      have hw1 : w.category = 1 := hq w rfl
      cases w <;> first | (simp [Value.category] at hw1; done) | (simp only [storeSelf, e1]; simp [Value.category, e2, e3])
  have hl : ∀ w : Value, ok1 (.val w) = true → w.category = 1 := fun w h => by simpa [ok1] using h
  have main : ∀ {o o' : Slot}, ok1 o = true → ok1 o' = true → (∀ q : Slot, (∀ w, q = .val w → w.category = 1) → storeSelf (⟨pre ++ o :: q :: t⟩ : Array Slot) pre.length (.long x) = some ⟨pre ++ .val (.long x) :: .second :: t⟩) → storeLocals ⟨pre ++ o :: o' :: t⟩ pre.length (.long x) = some ⟨pre ++ .val (.long x) :: .second :: t⟩ := by
    intro o o' h1 h2 hs
    have hg : (⟨pre ++ o :: o' :: t⟩ : Array Slot)[pre.length]? = some o := by simp
    have h3 := hs o' fun w e => hl w (by rw [← e]; exact h2)
    cases o with
    | unset => simp only [storeLocals, hg]; exact h3
    | second => cases h1
    | val w =>
      have hw : ¬ w.category = 2 := by have := hl w h1; omega
      simp only [storeLocals, hg]
      show (if w.category = 2 then _ else _) = _
      rw [if_neg hw]; exact h3
  by_cases hb : ok1 o = true ∧ ok1 o' = true
  · exact main hb.1 hb.2 hs
  · have : (∃ z, o = .val (.long z)) ∧ o' = .second := by
      unfold ok2 at ho
      split at ho
      · exact ⟨⟨_, rfl⟩, rfl⟩
      · simp only [Bool.and_eq_true] at ho; exact absurd ho hb
    obtain ⟨⟨z, rfl⟩, rfl⟩ := this
    simp only [storeLocals, hg]
    have e4 : setAt (⟨pre ++ .val (.long z) :: .second :: t⟩ : Array Slot) (pre.length + 1) .unset = some ⟨pre ++ .val (.long z) :: .unset :: t⟩ := by
      simp [setAt, Array.setIfInBounds]
    simp only [Option.bind_eq_bind, Option.bind_some, Value.category, if_true, e4]
    exact hs .unset fun w e => by cases e
theorem lstoreN_2 {s0 s1 : Slot} {o o' : Slot} {t : List Slot} {x : Int64} {pc' : Nat} (hd : decode code pc = .ok (.lstore_n 2, 1)) (ho : ok2 o o' = true) (hp : pc + 1 = pc') (w : WP l Z a0 n0 R y code mx ret cells slots pc' (s0 :: s1 :: .val (.long x) :: .second :: t) st H Q) : WP l Z a0 n0 R y code mx ret cells slots pc (s0 :: s1 :: o :: o' :: t) (.long x :: st) H Q := by
  subst hp
  exact pure (fun p e m below c T t h hx hc' hs => XS.lstoreN h hx rfl (hb hc' hd) rfl (stl2 [s0, s1] ho) hs) w
theorem ldcL {i : Nat} {n : Int64} {pc' : Nat} (hw : (Cond.constantLong y.cls i n).before a0 Z = true) (hd : decode code pc = .ok (.ldc2_w i, 3)) (hp : pc + 3 = pc') (w : WP l Z a0 n0 R y code mx ret cells slots pc' Ls (.long n :: st) H Q) : WP l Z a0 n0 R y code mx ret cells slots pc Ls st H Q := by
  subst hp
  exact stepT (fun p e s m args below meth c T locs X hx hZ hc hm ho hR => ⟨T, X, rfl, X.ldc2Long hx ho (mvT hZ hw) (g := mkF m pc ⟨Ls⟩ st) rfl (hb hc hd)⟩) w
theorem leaveW {v : Option Value} {st : List Value} (hv : ret = none → v = none) (q : Q v H)
    (h : ∀ (p : Program) (e : Env) (s : State) (m : MethodId) (args : Array Value) (below : List Frame) (meth : Method) (c : Code) (T : State) (locs : List Loc) (fs : List Frame), Stand p l e R s m args below meth c T locs cells slots → p.tables.exec = Jvm.exec → c.code = code → meth.sig.returnType = ret → (∀ (f : JFrame) (acts : List Action), f.method = m → f.locked = none → f.entered = [] → (doReturn e (T.setTop f) acts v).1 = T.setFrames fs) → Steps p.tables e below (T.setTop (mkF m pc ⟨Ls⟩ st)) (T.setFrames fs)) : WP l Z a0 n0 R y code mx ret cells slots pc Ls st H Q := by
  intro p e s m args below meth c T locs X hx hZ hc hm ho hn hr hl hF hR g1 g2
  obtain ⟨fs, hrr, hrun, hended, hW, hsame⟩ := X.leave (v := v) (fun k => hv (by rw [← hr]; exact k)) hl
  exact ⟨v, H, locs, _, h p e s m args below meth c T locs fs X hx hc hr hrr, hrun, hended, hF, hR, q, hW, hsame.mono g1 g2⟩
theorem ireturn {z : Int32} (hret : ret = some .int) (hd : decode code pc = .ok (.ireturn, 1)) (q : Q (some (.int z)) H) : WP l Z a0 n0 R y code mx ret cells slots pc Ls (.int z :: st) H Q :=
  leaveW (fun k => by rw [hret] at k; cases k) q fun p e s m args below meth c T locs fs X hx hc hr hrr => retI X hx (hr.trans hret) (hb hc hd) hrr
theorem zreturn {z : Int32} (hret : ret = some .boolean) (hd : decode code pc = .ok (.ireturn, 1)) (q : Q (some (.int (z &&& 1))) H) : WP l Z a0 n0 R y code mx ret cells slots pc Ls (.int z :: st) H Q :=
  leaveW (fun k => by rw [hret] at k; cases k) q fun p e s m args below meth c T locs fs X hx hc hr hrr => retN X hx (t := .boolean) (hr.trans hret) (by simp) (hb hc hd) hrr
theorem lreturn {z : Int64} (hret : ret = some .long) (hd : decode code pc = .ok (.lreturn, 1)) (q : Q (some (.long z)) H) : WP l Z a0 n0 R y code mx ret cells slots pc Ls (.long z :: st) H Q :=
  leaveW (fun k => by rw [hret] at k; cases k) q fun p e s m args below meth c T locs fs X hx hc hr hrr => retOut X hx (hr.trans hret) rfl (Or.inr (Or.inl ⟨rfl, rfl, _, rfl⟩)) (hb hc hd) hrr
/-- what a call by a contract leaves -/
def After (l : Launch) (Z : State) (a0 : Array Value) (n0 : Nat) (R : Room) (y : MethodName) (code : ByteArray) (mx : Nat) (ret : Option FieldType) (cells slots pc : Nat) (Ls : List Slot) (st : List Value) (Q : Option Value → MH → Prop) : Option Value → MH → Prop
  | some r, H' => WP l Z a0 n0 R y code mx ret cells slots pc Ls (r :: st) H' Q
  | none, H' => WP l Z a0 n0 R y code mx ret cells slots pc Ls st H' Q
theorem After.to {v : Option Value} {H' : MH} (h : After l Z a0 n0 R y code mx ret cells slots pc Ls st Q v H') : WP l Z a0 n0 R y code mx ret cells slots pc Ls (v.toList ++ st) H' Q := by
  cases v <;> exact h
theorem callSG {z : MethodName} {zc : ByteArray} {zm : Nat} {zr : Option FieldType} {ps : List FieldType} {i : Nat} {rm : Room} {pc' : Nat} (W : Nat) (argsL : List Value) {rest : List Value} (w1 : (Cond.methodLink y.cls i z).before a0 Z = true) (w2 : (Cond.static z).before a0 Z = true) (w3 : (Cond.initialized z.cls).before a0 Z = true) (w4 : (Cond.code z zc zm zr).before a0 Z = true) (hy : z.cls ≠ "java/lang/invoke/MethodHandle" ∧ z.cls ≠ "java/lang/invoke/VarHandle") (hds : parseMethodDescriptor z.desc = some ⟨ps, zr⟩) (hlen : argsL.length = ps.length) (hd : decode code pc = .ok (.invokestatic i, 3)) (hs : Ls.length = mx) (hW : (rest.map fun v => v.category).sum = W) (hf : rm.frames + 1 ≤ R.frames) (hl : W + (zm + 11) + rm.locals ≤ R.locals) (hc : cells + rm.cells ≤ R.cells) (hsl : slots + rm.slots ≤ R.slots) (hp : pc + 3 = pc') {cells' slots' : Nat} (hc' : cells + rm.cells = cells') (hs' : slots + rm.slots = slots') (hst : st = argsL.reverse ++ rest)
    (k : Con l Z a0 n0 z zc zm zr rm argsL.toArray H (After l Z a0 n0 R y code mx ret cells' slots' pc' Ls rest Q)) : WP l Z a0 n0 R y code mx ret cells slots pc Ls st H Q := by
  subst hp hst hc' hs'
  intro p e s m args below meth c T locs X hx hZ hcode hm ho hnm hr hlk hF hR g1 g2
  obtain ⟨v, vm, ⟨T', L', k', n'⟩, -, X', ⟨Lc, ⟨q1, H', q2, q3⟩, e1, e2, e3⟩, st'⟩ := Jvm.LawKit.callS X hx (y := z) ho (mvT hZ w1) (mvT hZ w2) (mvT hZ w3) (mvT hZ w4) hy (backOf (W := W) (h := T.heap) (Q := fun v h L => Fr n0 L ∧ ∃ H', Rel Z a0 n0 H' h ∧ After l Z a0 n0 R y code mx ret (cells + rm.cells) (slots + rm.slots) (pc + 3) Ls rest Q v H') (k [] T.heap hR) hZ w4 w3 hf hl) (g := mkF m pc ⟨Ls⟩ (argsL.reverse ++ rest)) rfl (by rw [hm]; simpa using hs) (argsL := argsL) (rest := rest) (lenOf hds hlen) rfl (by show 2 * 0 + _ ≤ _; omega) (hb hcode hd) (fun _ _ => ⟨rfl, rfl, hc, hsl⟩)
  dsimp only [Pt.U, Pt.locs, Pt.cells, Pt.slots] at X' e1 e2 e3 st'
  subst e1 e2 e3
  obtain ⟨v2, H2, L2, s2, k1, k2⟩ := (After.to q3) p e s m args below meth c T' _ X' hx hZ hcode hm ho hnm hr hlk (Fr.app hF q1) q2 hc hsl
  exact ⟨v2, H2, L2, s2, st' _ k1, k2⟩
theorem afterS {r : Value} {H' : MH} (h : WP l Z a0 n0 R y code mx ret cells slots pc Ls (r :: st) H' Q) : After l Z a0 n0 R y code mx ret cells slots pc Ls st Q (some r) H' := h
theorem callS_1 {z : MethodName} {zc : ByteArray} {zm : Nat} {zr : Option FieldType} {ps : List FieldType} {i : Nat} {rm : Room} {pc' : Nat} (W : Nat) {v0 : Value} {rest : List Value} (w1 : (Cond.methodLink y.cls i z).before a0 Z = true) (w2 : (Cond.static z).before a0 Z = true) (w3 : (Cond.initialized z.cls).before a0 Z = true) (w4 : (Cond.code z zc zm zr).before a0 Z = true) (hy : z.cls ≠ "java/lang/invoke/MethodHandle" ∧ z.cls ≠ "java/lang/invoke/VarHandle") (hds : parseMethodDescriptor z.desc = some ⟨ps, zr⟩) (hlen : 1 = ps.length) (hd : decode code pc = .ok (.invokestatic i, 3)) (hs : Ls.length = mx) (hW : (rest.map fun v => v.category).sum = W) (hf : rm.frames + 1 ≤ R.frames) (hl : W + (zm + 11) + rm.locals ≤ R.locals) (hc : cells + rm.cells ≤ R.cells) (hsl : slots + rm.slots ≤ R.slots) (hp : pc + 3 = pc') {cells' slots' : Nat} (hc' : cells + rm.cells = cells') (hs' : slots + rm.slots = slots') (k : Con l Z a0 n0 z zc zm zr rm #[v0] H (After l Z a0 n0 R y code mx ret cells' slots' pc' Ls rest Q)) : WP l Z a0 n0 R y code mx ret cells slots pc Ls (v0 :: rest) H Q := callSG W [v0] w1 w2 w3 w4 hy hds hlen hd hs hW hf hl hc hsl hp hc' hs' rfl k
end Jvm.Wp
namespace Jvm.Pilot.@@N@@
open Jvm Jvm.ClassFile Sem Op Lib Jvm.Free Jvm.Stand Jvm.LawKit Jvm.RoadKit Bundle Jvm.Pilot.@@N@@.Jvm.D
abbrev Hw (Z : State) (a0 : Array Value) : Prop := ∀ d ∈ tables_1, d.before a0 Z = true
theorem w0 {Z : State} {a0 : Array Value} (hw : Hw Z a0) : (Jvm.Cond.methodLink "com/example/slim_sieve/slimsieve/ItemHashFinalMixPinLaw" (19 : Nat) ({ cls := "com/example/slim_sieve/slimsieve/ItemHash", name := "finalMix", desc := "(J)J" } : Jvm.MethodName)).before a0 Z = true := hw _ (List.mem_of_getElem? (i := 0) rfl)
theorem w1 {Z : State} {a0 : Array Value} (hw : Hw Z a0) : (Jvm.Cond.static ({ cls := "com/example/slim_sieve/slimsieve/ItemHash", name := "finalMix", desc := "(J)J" } : Jvm.MethodName)).before a0 Z = true := hw _ (List.mem_of_getElem? (i := 1) rfl)
theorem w2 {Z : State} {a0 : Array Value} (hw : Hw Z a0) : (Jvm.Cond.initialized "com/example/slim_sieve/slimsieve/ItemHash").before a0 Z = true := hw _ (List.mem_of_getElem? (i := 2) rfl)
theorem w3 {Z : State} {a0 : Array Value} (hw : Hw Z a0) : (Jvm.Cond.code ({ cls := "com/example/slim_sieve/slimsieve/ItemHash", name := "finalMix", desc := "(J)J" } : Jvm.MethodName) prog_12_method_20_code (4 : Nat) (Option.some Jvm.ClassFile.FieldType.long)).before a0 Z = true := hw _ (List.mem_of_getElem? (i := 3) rfl)
theorem w4 {Z : State} {a0 : Array Value} (hw : Hw Z a0) : (Jvm.Cond.constantLong "com/example/slim_sieve/slimsieve/ItemHash" (153 : Nat) (-49064778989728563 : Int64)).before a0 Z = true := hw _ (List.mem_of_getElem? (i := 4) rfl)
theorem w5 {Z : State} {a0 : Array Value} (hw : Hw Z a0) : (Jvm.Cond.constantLong "com/example/slim_sieve/slimsieve/ItemHash" (155 : Nat) (-4265267296055464877 : Int64)).before a0 Z = true := hw _ (List.mem_of_getElem? (i := 5) rfl)
theorem w6 {Z : State} {a0 : Array Value} (hw : Hw Z a0) : (Jvm.Cond.methodLink "com/example/slim_sieve/slimsieve/ItemHashFinalMixPinLaw" (24 : Nat) ({ cls := "com/example/slim_sieve/slimsieve/ItemHashFinalMixPinLaw", name := "unmix", desc := "(J)J" } : Jvm.MethodName)).before a0 Z = true := hw _ (List.mem_of_getElem? (i := 6) rfl)
theorem w7 {Z : State} {a0 : Array Value} (hw : Hw Z a0) : (Jvm.Cond.static ({ cls := "com/example/slim_sieve/slimsieve/ItemHashFinalMixPinLaw", name := "unmix", desc := "(J)J" } : Jvm.MethodName)).before a0 Z = true := hw _ (List.mem_of_getElem? (i := 7) rfl)
theorem w8 {Z : State} {a0 : Array Value} (hw : Hw Z a0) : (Jvm.Cond.initialized "com/example/slim_sieve/slimsieve/ItemHashFinalMixPinLaw").before a0 Z = true := hw _ (List.mem_of_getElem? (i := 8) rfl)
theorem w9 {Z : State} {a0 : Array Value} (hw : Hw Z a0) : (Jvm.Cond.code ({ cls := "com/example/slim_sieve/slimsieve/ItemHashFinalMixPinLaw", name := "unmix", desc := "(J)J" } : Jvm.MethodName) method_3_code (4 : Nat) (Option.some Jvm.ClassFile.FieldType.long)).before a0 Z = true := hw _ (List.mem_of_getElem? (i := 9) rfl)
theorem w10 {Z : State} {a0 : Array Value} (hw : Hw Z a0) : (Jvm.Cond.constantLong "com/example/slim_sieve/slimsieve/ItemHashFinalMixPinLaw" (9 : Nat) (-4265267296055464877 : Int64)).before a0 Z = true := hw _ (List.mem_of_getElem? (i := 10) rfl)
theorem w11 {Z : State} {a0 : Array Value} (hw : Hw Z a0) : (Jvm.Cond.methodLink "com/example/slim_sieve/slimsieve/ItemHashFinalMixPinLaw" (11 : Nat) ({ cls := "com/example/slim_sieve/slimsieve/ItemHashFinalMixPinLaw", name := "inverse", desc := "(J)J" } : Jvm.MethodName)).before a0 Z = true := hw _ (List.mem_of_getElem? (i := 11) rfl)
theorem w12 {Z : State} {a0 : Array Value} (hw : Hw Z a0) : (Jvm.Cond.static ({ cls := "com/example/slim_sieve/slimsieve/ItemHashFinalMixPinLaw", name := "inverse", desc := "(J)J" } : Jvm.MethodName)).before a0 Z = true := hw _ (List.mem_of_getElem? (i := 12) rfl)
theorem w13 {Z : State} {a0 : Array Value} (hw : Hw Z a0) : (Jvm.Cond.code ({ cls := "com/example/slim_sieve/slimsieve/ItemHashFinalMixPinLaw", name := "inverse", desc := "(J)J" } : Jvm.MethodName) method_2_code (4 : Nat) (Option.some Jvm.ClassFile.FieldType.long)).before a0 Z = true := hw _ (List.mem_of_getElem? (i := 13) rfl)
theorem w14 {Z : State} {a0 : Array Value} (hw : Hw Z a0) : (Jvm.Cond.constantLong "com/example/slim_sieve/slimsieve/ItemHashFinalMixPinLaw" (7 : Nat) (2 : Int64)).before a0 Z = true := hw _ (List.mem_of_getElem? (i := 14) rfl)
theorem w15 {Z : State} {a0 : Array Value} (hw : Hw Z a0) : (Jvm.Cond.constantLong "com/example/slim_sieve/slimsieve/ItemHashFinalMixPinLaw" (17 : Nat) (-49064778989728563 : Int64)).before a0 Z = true := hw _ (List.mem_of_getElem? (i := 15) rfl)
theorem d1_0 : decode prog_12_method_20_code 0 = .ok (.lload_n 0, 1) := by decide +kernel
theorem d1_1 : decode prog_12_method_20_code 1 = .ok (.lload_n 0, 1) := by decide +kernel
theorem d1_2 : decode prog_12_method_20_code 2 = .ok (.bipush 33, 2) := by decide +kernel
theorem d1_4 : decode prog_12_method_20_code 4 = .ok (.lushr, 1) := by decide +kernel
theorem d1_5 : decode prog_12_method_20_code 5 = .ok (.lxor, 1) := by decide +kernel
theorem d1_6 : decode prog_12_method_20_code 6 = .ok (.lstore_n 2, 1) := by decide +kernel
theorem d1_7 : decode prog_12_method_20_code 7 = .ok (.lload_n 2, 1) := by decide +kernel
theorem d1_8 : decode prog_12_method_20_code 8 = .ok (.ldc2_w 153, 3) := by decide +kernel
theorem d1_11 : decode prog_12_method_20_code 11 = .ok (.lmul, 1) := by decide +kernel
theorem d1_12 : decode prog_12_method_20_code 12 = .ok (.lstore_n 2, 1) := by decide +kernel
theorem d1_13 : decode prog_12_method_20_code 13 = .ok (.lload_n 2, 1) := by decide +kernel
theorem d1_14 : decode prog_12_method_20_code 14 = .ok (.lload_n 2, 1) := by decide +kernel
theorem d1_15 : decode prog_12_method_20_code 15 = .ok (.bipush 33, 2) := by decide +kernel
theorem d1_17 : decode prog_12_method_20_code 17 = .ok (.lushr, 1) := by decide +kernel
theorem d1_18 : decode prog_12_method_20_code 18 = .ok (.lxor, 1) := by decide +kernel
theorem d1_19 : decode prog_12_method_20_code 19 = .ok (.lstore_n 2, 1) := by decide +kernel
theorem d1_20 : decode prog_12_method_20_code 20 = .ok (.lload_n 2, 1) := by decide +kernel
theorem d1_21 : decode prog_12_method_20_code 21 = .ok (.ldc2_w 155, 3) := by decide +kernel
theorem d1_24 : decode prog_12_method_20_code 24 = .ok (.lmul, 1) := by decide +kernel
theorem d1_25 : decode prog_12_method_20_code 25 = .ok (.lstore_n 2, 1) := by decide +kernel
theorem d1_26 : decode prog_12_method_20_code 26 = .ok (.lload_n 2, 1) := by decide +kernel
theorem d1_27 : decode prog_12_method_20_code 27 = .ok (.lload_n 2, 1) := by decide +kernel
theorem d1_28 : decode prog_12_method_20_code 28 = .ok (.bipush 33, 2) := by decide +kernel
theorem d1_30 : decode prog_12_method_20_code 30 = .ok (.lushr, 1) := by decide +kernel
theorem d1_31 : decode prog_12_method_20_code 31 = .ok (.lxor, 1) := by decide +kernel
theorem d1_32 : decode prog_12_method_20_code 32 = .ok (.lreturn, 1) := by decide +kernel
theorem d2_0 : decode method_3_code 0 = .ok (.lload_n 0, 1) := by decide +kernel
theorem d2_1 : decode method_3_code 1 = .ok (.lload_n 0, 1) := by decide +kernel
theorem d2_2 : decode method_3_code 2 = .ok (.bipush 33, 2) := by decide +kernel
theorem d2_4 : decode method_3_code 4 = .ok (.lushr, 1) := by decide +kernel
theorem d2_5 : decode method_3_code 5 = .ok (.lxor, 1) := by decide +kernel
theorem d2_6 : decode method_3_code 6 = .ok (.lstore_n 2, 1) := by decide +kernel
theorem d2_7 : decode method_3_code 7 = .ok (.lload_n 2, 1) := by decide +kernel
theorem d2_8 : decode method_3_code 8 = .ok (.ldc2_w 9, 3) := by decide +kernel
theorem d2_11 : decode method_3_code 11 = .ok (.invokestatic 11, 3) := by decide +kernel
theorem d2_14 : decode method_3_code 14 = .ok (.lmul, 1) := by decide +kernel
theorem d2_15 : decode method_3_code 15 = .ok (.lstore_n 2, 1) := by decide +kernel
theorem d2_16 : decode method_3_code 16 = .ok (.lload_n 2, 1) := by decide +kernel
theorem d2_17 : decode method_3_code 17 = .ok (.lload_n 2, 1) := by decide +kernel
theorem d2_18 : decode method_3_code 18 = .ok (.bipush 33, 2) := by decide +kernel
theorem d2_20 : decode method_3_code 20 = .ok (.lushr, 1) := by decide +kernel
theorem d2_21 : decode method_3_code 21 = .ok (.lxor, 1) := by decide +kernel
theorem d2_22 : decode method_3_code 22 = .ok (.lstore_n 2, 1) := by decide +kernel
theorem d2_23 : decode method_3_code 23 = .ok (.lload_n 2, 1) := by decide +kernel
theorem d2_24 : decode method_3_code 24 = .ok (.ldc2_w 17, 3) := by decide +kernel
theorem d2_27 : decode method_3_code 27 = .ok (.invokestatic 11, 3) := by decide +kernel
theorem d2_30 : decode method_3_code 30 = .ok (.lmul, 1) := by decide +kernel
theorem d2_31 : decode method_3_code 31 = .ok (.lstore_n 2, 1) := by decide +kernel
theorem d2_32 : decode method_3_code 32 = .ok (.lload_n 2, 1) := by decide +kernel
theorem d2_33 : decode method_3_code 33 = .ok (.lload_n 2, 1) := by decide +kernel
theorem d2_34 : decode method_3_code 34 = .ok (.bipush 33, 2) := by decide +kernel
theorem d2_36 : decode method_3_code 36 = .ok (.lushr, 1) := by decide +kernel
theorem d2_37 : decode method_3_code 37 = .ok (.lxor, 1) := by decide +kernel
theorem d2_38 : decode method_3_code 38 = .ok (.lreturn, 1) := by decide +kernel
theorem d3_0 : decode method_2_code 0 = .ok (.lload_n 0, 1) := by decide +kernel
theorem d3_1 : decode method_2_code 1 = .ok (.lstore_n 2, 1) := by decide +kernel
theorem d3_2 : decode method_2_code 2 = .ok (.lload_n 2, 1) := by decide +kernel
theorem d3_3 : decode method_2_code 3 = .ok (.ldc2_w 7, 3) := by decide +kernel
theorem d3_6 : decode method_2_code 6 = .ok (.lload_n 0, 1) := by decide +kernel
theorem d3_7 : decode method_2_code 7 = .ok (.lload_n 2, 1) := by decide +kernel
theorem d3_8 : decode method_2_code 8 = .ok (.lmul, 1) := by decide +kernel
theorem d3_9 : decode method_2_code 9 = .ok (.lsub, 1) := by decide +kernel
theorem d3_10 : decode method_2_code 10 = .ok (.lmul, 1) := by decide +kernel
theorem d3_11 : decode method_2_code 11 = .ok (.lstore_n 2, 1) := by decide +kernel
theorem d3_12 : decode method_2_code 12 = .ok (.lload_n 2, 1) := by decide +kernel
theorem d3_13 : decode method_2_code 13 = .ok (.ldc2_w 7, 3) := by decide +kernel
theorem d3_16 : decode method_2_code 16 = .ok (.lload_n 0, 1) := by decide +kernel
theorem d3_17 : decode method_2_code 17 = .ok (.lload_n 2, 1) := by decide +kernel
theorem d3_18 : decode method_2_code 18 = .ok (.lmul, 1) := by decide +kernel
theorem d3_19 : decode method_2_code 19 = .ok (.lsub, 1) := by decide +kernel
theorem d3_20 : decode method_2_code 20 = .ok (.lmul, 1) := by decide +kernel
theorem d3_21 : decode method_2_code 21 = .ok (.lstore_n 2, 1) := by decide +kernel
theorem d3_22 : decode method_2_code 22 = .ok (.lload_n 2, 1) := by decide +kernel
theorem d3_23 : decode method_2_code 23 = .ok (.ldc2_w 7, 3) := by decide +kernel
theorem d3_26 : decode method_2_code 26 = .ok (.lload_n 0, 1) := by decide +kernel
theorem d3_27 : decode method_2_code 27 = .ok (.lload_n 2, 1) := by decide +kernel
theorem d3_28 : decode method_2_code 28 = .ok (.lmul, 1) := by decide +kernel
theorem d3_29 : decode method_2_code 29 = .ok (.lsub, 1) := by decide +kernel
theorem d3_30 : decode method_2_code 30 = .ok (.lmul, 1) := by decide +kernel
theorem d3_31 : decode method_2_code 31 = .ok (.lstore_n 2, 1) := by decide +kernel
theorem d3_32 : decode method_2_code 32 = .ok (.lload_n 2, 1) := by decide +kernel
theorem d3_33 : decode method_2_code 33 = .ok (.ldc2_w 7, 3) := by decide +kernel
theorem d3_36 : decode method_2_code 36 = .ok (.lload_n 0, 1) := by decide +kernel
theorem d3_37 : decode method_2_code 37 = .ok (.lload_n 2, 1) := by decide +kernel
theorem d3_38 : decode method_2_code 38 = .ok (.lmul, 1) := by decide +kernel
theorem d3_39 : decode method_2_code 39 = .ok (.lsub, 1) := by decide +kernel
theorem d3_40 : decode method_2_code 40 = .ok (.lmul, 1) := by decide +kernel
theorem d3_41 : decode method_2_code 41 = .ok (.lstore_n 2, 1) := by decide +kernel
theorem d3_42 : decode method_2_code 42 = .ok (.lload_n 2, 1) := by decide +kernel
theorem d3_43 : decode method_2_code 43 = .ok (.ldc2_w 7, 3) := by decide +kernel
theorem d3_46 : decode method_2_code 46 = .ok (.lload_n 0, 1) := by decide +kernel
theorem d3_47 : decode method_2_code 47 = .ok (.lload_n 2, 1) := by decide +kernel
theorem d3_48 : decode method_2_code 48 = .ok (.lmul, 1) := by decide +kernel
theorem d3_49 : decode method_2_code 49 = .ok (.lsub, 1) := by decide +kernel
theorem d3_50 : decode method_2_code 50 = .ok (.lmul, 1) := by decide +kernel
theorem d3_51 : decode method_2_code 51 = .ok (.lstore_n 2, 1) := by decide +kernel
theorem d3_52 : decode method_2_code 52 = .ok (.lload_n 2, 1) := by decide +kernel
theorem d3_53 : decode method_2_code 53 = .ok (.lreturn, 1) := by decide +kernel
theorem pd0 : parseMethodDescriptor "(J)J" = some ⟨[.long], some .long⟩ := by decide +kernel
abbrev nm0 : MethodName := x
abbrev rm0 : Room := room_1
abbrev C0 (l : Launch) (Z : State) (a0 : Array Value) (n0 : Nat) := Wp.Con l Z a0 n0 nm0 code maxLocals ret rm0
abbrev W0 (l : Launch) (Z : State) (a0 : Array Value) (n0 : Nat) := Wp.WP l Z a0 n0 rm0 nm0 code maxLocals ret
theorem pn0 : plainName nm0.cls = true := by first | (simp [plainName, overriddenIn, nm0, x]; done) | decide +kernel
theorem ef0 (m : MethodId) (x0 : Int64) : entryFrame m #[(.long x0)] maxLocals = mkF m 0 ⟨[.val (.long x0), .second]⟩ [] := by first | rfl | (simp [entryFrame, mkF, argsToLocals, Value.category, maxLocals]; done)
abbrev nm1 : MethodName := ⟨"com/example/slim_sieve/slimsieve/ItemHash", "finalMix", "(J)J"⟩
abbrev rm1 : Room := { frames := 0, cells := 0, slots := 0, locals := 0 }
abbrev C1 (l : Launch) (Z : State) (a0 : Array Value) (n0 : Nat) := Wp.Con l Z a0 n0 nm1 prog_12_method_20_code 4 (some .long) rm1
abbrev W1 (l : Launch) (Z : State) (a0 : Array Value) (n0 : Nat) := Wp.WP l Z a0 n0 rm1 nm1 prog_12_method_20_code 4 (some .long)
theorem pn1 : plainName nm1.cls = true := by first | (simp [plainName, overriddenIn, nm1, x]; done) | decide +kernel
theorem ef1 (m : MethodId) (x0 : Int64) : entryFrame m #[(.long x0)] 4 = mkF m 0 ⟨[.val (.long x0), .second, .unset, .unset]⟩ [] := by first | rfl | (simp [entryFrame, mkF, argsToLocals, Value.category]; done)
abbrev nm2 : MethodName := ⟨"com/example/slim_sieve/slimsieve/ItemHashFinalMixPinLaw", "unmix", "(J)J"⟩
abbrev rm2 : Room := { frames := 1, cells := 0, slots := 0, locals := 17 }
abbrev C2 (l : Launch) (Z : State) (a0 : Array Value) (n0 : Nat) := Wp.Con l Z a0 n0 nm2 method_3_code 4 (some .long) rm2
abbrev W2 (l : Launch) (Z : State) (a0 : Array Value) (n0 : Nat) := Wp.WP l Z a0 n0 rm2 nm2 method_3_code 4 (some .long)
theorem pn2 : plainName nm2.cls = true := by first | (simp [plainName, overriddenIn, nm2, x]; done) | decide +kernel
theorem ef2 (m : MethodId) (x0 : Int64) : entryFrame m #[(.long x0)] 4 = mkF m 0 ⟨[.val (.long x0), .second, .unset, .unset]⟩ [] := by first | rfl | (simp [entryFrame, mkF, argsToLocals, Value.category]; done)
abbrev nm3 : MethodName := ⟨"com/example/slim_sieve/slimsieve/ItemHashFinalMixPinLaw", "inverse", "(J)J"⟩
abbrev rm3 : Room := { frames := 0, cells := 0, slots := 0, locals := 0 }
abbrev C3 (l : Launch) (Z : State) (a0 : Array Value) (n0 : Nat) := Wp.Con l Z a0 n0 nm3 method_2_code 4 (some .long) rm3
abbrev W3 (l : Launch) (Z : State) (a0 : Array Value) (n0 : Nat) := Wp.WP l Z a0 n0 rm3 nm3 method_2_code 4 (some .long)
theorem pn3 : plainName nm3.cls = true := by first | (simp [plainName, overriddenIn, nm3, x]; done) | decide +kernel
theorem ef3 (m : MethodId) (x0 : Int64) : entryFrame m #[(.long x0)] 4 = mkF m 0 ⟨[.val (.long x0), .second, .unset, .unset]⟩ [] := by first | rfl | (simp [entryFrame, mkF, argsToLocals, Value.category]; done)
set_option maxRecDepth 65536
def own_us (x : Int64) (k : Int32) : Int64 := (x.toUInt64 >>> (k &&& 0x3f).toInt64.toUInt64).toInt64
def own_inv (a : Int64) : Int64 :=
  let x1 := a * (2 - a * a)
  let x2 := x1 * (2 - a * x1)
  let x3 := x2 * (2 - a * x2)
  let x4 := x3 * (2 - a * x3)
  x4 * (2 - a * x4)
theorem own_mulinv {c i : Int64} (h : c * i = 1) (x : Int64) : x * c * i = x := by
  rw [Int64.mul_assoc, h, Int64.mul_one]

theorem own_sh (x : Int64) : (own_us x 33).toBitVec = x.toBitVec >>> 33 := rfl
theorem own_un (x : Int64) : (x ^^^ own_us x 33) ^^^ own_us (x ^^^ own_us x 33) 33 = x := by
  apply Int64.toBitVec_inj.mp
  simp only [Int64.toBitVec_xor, own_sh]
  apply BitVec.eq_of_getLsbD_eq
  intro i hi
  simp only [BitVec.getLsbD_xor, BitVec.getLsbD_ushiftRight]
  have h3 : x.toBitVec.getLsbD (33 + (33 + i)) = false := BitVec.getLsbD_of_ge _ _ (by omega)
  rw [h3]
  cases x.toBitVec.getLsbD i <;> cases x.toBitVec.getLsbD (33 + i) <;> rfl
def own_fm (z : Int64) : Int64 :=
  let y1 := (z ^^^ own_us z 33) * (-49064778989728563)
  let y2 := (y1 ^^^ own_us y1 33) * (-4265267296055464877)
  y2 ^^^ own_us y2 33
def own_um (m : Int64) : Int64 :=
  let y1 := (m ^^^ own_us m 33) * own_inv (-4265267296055464877)
  let y2 := (y1 ^^^ own_us y1 33) * own_inv (-49064778989728563)
  y2 ^^^ own_us y2 33
theorem own_mix (z : Int64) : own_um (own_fm z) = z := by
  unfold own_um own_fm
  dsimp only
  rw [own_un, own_mulinv (c := -4265267296055464877) (by decide +kernel), own_un, own_mulinv (c := -49064778989728563) (by decide +kernel), own_un]
theorem con1 {l : Launch} {Z : State} {a0 : Array Value} {n0 : Nat} (hw : Hw Z a0) (z : Int64) (H : Wp.MH) :
    C1 l Z a0 n0 #[.long z] H (fun v H' => v = some (.long (own_fm z)) ∧ H' = H) := by
  refine Wp.Con.intro pn1 (fun m => ef1 m z) ?_
  refine Wp.lloadN (pc' := 1) d1_0 rfl rfl ?_
  refine Wp.lloadN (pc' := 2) d1_1 rfl rfl ?_
  refine Wp.bipush (33) (pc' := 4) d1_2 rfl rfl ?_
  refine Wp.lushr (pc' := 5) d1_4 rfl ?_
  refine Wp.lxor (pc' := 6) d1_5 rfl ?_
  refine Wp.lstoreN_2 (pc' := 7) d1_6 rfl rfl ?_
  refine Wp.lloadN (pc' := 8) d1_7 rfl rfl ?_
  refine Wp.ldcL (pc' := 11) (w4 hw) d1_8 rfl ?_
  refine Wp.lmul (pc' := 12) d1_11 rfl ?_
  refine Wp.lstoreN_2 (pc' := 13) d1_12 rfl rfl ?_
  refine Wp.lloadN (pc' := 14) d1_13 rfl rfl ?_
  refine Wp.lloadN (pc' := 15) d1_14 rfl rfl ?_
  refine Wp.bipush (33) (pc' := 17) d1_15 rfl rfl ?_
  refine Wp.lushr (pc' := 18) d1_17 rfl ?_
  refine Wp.lxor (pc' := 19) d1_18 rfl ?_
  refine Wp.lstoreN_2 (pc' := 20) d1_19 rfl rfl ?_
  refine Wp.lloadN (pc' := 21) d1_20 rfl rfl ?_
  refine Wp.ldcL (pc' := 24) (w5 hw) d1_21 rfl ?_
  refine Wp.lmul (pc' := 25) d1_24 rfl ?_
  refine Wp.lstoreN_2 (pc' := 26) d1_25 rfl rfl ?_
  refine Wp.lloadN (pc' := 27) d1_26 rfl rfl ?_
  refine Wp.lloadN (pc' := 28) d1_27 rfl rfl ?_
  refine Wp.bipush (33) (pc' := 30) d1_28 rfl rfl ?_
  refine Wp.lushr (pc' := 31) d1_30 rfl ?_
  refine Wp.lxor (pc' := 32) d1_31 rfl ?_
  refine Wp.lreturn rfl d1_32 ?_
  exact ⟨rfl, rfl⟩
theorem con3 {l : Launch} {Z : State} {a0 : Array Value} {n0 : Nat} (hw : Hw Z a0) (z : Int64) (H : Wp.MH) :
    C3 l Z a0 n0 #[.long z] H (fun v H' => v = some (.long (own_inv z)) ∧ H' = H) := by
  refine Wp.Con.intro pn3 (fun m => ef3 m z) ?_
  refine Wp.lloadN (pc' := 1) d3_0 rfl rfl ?_
  refine Wp.lstoreN_2 (pc' := 2) d3_1 rfl rfl ?_
  refine Wp.lloadN (pc' := 3) d3_2 rfl rfl ?_
  refine Wp.ldcL (pc' := 6) (w14 hw) d3_3 rfl ?_
  refine Wp.lloadN (pc' := 7) d3_6 rfl rfl ?_
  refine Wp.lloadN (pc' := 8) d3_7 rfl rfl ?_
  refine Wp.lmul (pc' := 9) d3_8 rfl ?_
  refine Wp.lsub (pc' := 10) d3_9 rfl ?_
  refine Wp.lmul (pc' := 11) d3_10 rfl ?_
  refine Wp.lstoreN_2 (pc' := 12) d3_11 rfl rfl ?_
  refine Wp.lloadN (pc' := 13) d3_12 rfl rfl ?_
  refine Wp.ldcL (pc' := 16) (w14 hw) d3_13 rfl ?_
  refine Wp.lloadN (pc' := 17) d3_16 rfl rfl ?_
  refine Wp.lloadN (pc' := 18) d3_17 rfl rfl ?_
  refine Wp.lmul (pc' := 19) d3_18 rfl ?_
  refine Wp.lsub (pc' := 20) d3_19 rfl ?_
  refine Wp.lmul (pc' := 21) d3_20 rfl ?_
  refine Wp.lstoreN_2 (pc' := 22) d3_21 rfl rfl ?_
  refine Wp.lloadN (pc' := 23) d3_22 rfl rfl ?_
  refine Wp.ldcL (pc' := 26) (w14 hw) d3_23 rfl ?_
  refine Wp.lloadN (pc' := 27) d3_26 rfl rfl ?_
  refine Wp.lloadN (pc' := 28) d3_27 rfl rfl ?_
  refine Wp.lmul (pc' := 29) d3_28 rfl ?_
  refine Wp.lsub (pc' := 30) d3_29 rfl ?_
  refine Wp.lmul (pc' := 31) d3_30 rfl ?_
  refine Wp.lstoreN_2 (pc' := 32) d3_31 rfl rfl ?_
  refine Wp.lloadN (pc' := 33) d3_32 rfl rfl ?_
  refine Wp.ldcL (pc' := 36) (w14 hw) d3_33 rfl ?_
  refine Wp.lloadN (pc' := 37) d3_36 rfl rfl ?_
  refine Wp.lloadN (pc' := 38) d3_37 rfl rfl ?_
  refine Wp.lmul (pc' := 39) d3_38 rfl ?_
  refine Wp.lsub (pc' := 40) d3_39 rfl ?_
  refine Wp.lmul (pc' := 41) d3_40 rfl ?_
  refine Wp.lstoreN_2 (pc' := 42) d3_41 rfl rfl ?_
  refine Wp.lloadN (pc' := 43) d3_42 rfl rfl ?_
  refine Wp.ldcL (pc' := 46) (w14 hw) d3_43 rfl ?_
  refine Wp.lloadN (pc' := 47) d3_46 rfl rfl ?_
  refine Wp.lloadN (pc' := 48) d3_47 rfl rfl ?_
  refine Wp.lmul (pc' := 49) d3_48 rfl ?_
  refine Wp.lsub (pc' := 50) d3_49 rfl ?_
  refine Wp.lmul (pc' := 51) d3_50 rfl ?_
  refine Wp.lstoreN_2 (pc' := 52) d3_51 rfl rfl ?_
  refine Wp.lloadN (pc' := 53) d3_52 rfl rfl ?_
  refine Wp.lreturn rfl d3_53 ?_
  exact ⟨rfl, rfl⟩
theorem con2 {l : Launch} {Z : State} {a0 : Array Value} {n0 : Nat} (hw : Hw Z a0) (y : Int64) (H : Wp.MH) :
    C2 l Z a0 n0 #[.long y] H (fun v H' => v = some (.long (own_um y)) ∧ H' = H) := by
  refine Wp.Con.intro pn2 (fun m => ef2 m y) ?_
  refine Wp.lloadN (pc' := 1) d2_0 rfl rfl ?_
  refine Wp.lloadN (pc' := 2) d2_1 rfl rfl ?_
  refine Wp.bipush (33) (pc' := 4) d2_2 rfl rfl ?_
  refine Wp.lushr (pc' := 5) d2_4 rfl ?_
  refine Wp.lxor (pc' := 6) d2_5 rfl ?_
  refine Wp.lstoreN_2 (pc' := 7) d2_6 rfl rfl ?_
  refine Wp.lloadN (pc' := 8) d2_7 rfl rfl ?_
  refine Wp.ldcL (pc' := 11) (w10 hw) d2_8 rfl ?_
  refine Wp.callS_1 2 (pc' := 14) (rm := rm3) (w11 hw) (w12 hw) (w8 hw) (w13 hw) (by decide) pd0 rfl d2_11 rfl rfl (by decide) (by decide) (by decide) (by decide) rfl rfl rfl ?_
  refine (con3 hw _ _).mono ?_
  rintro _ _ ⟨rfl, rfl⟩
  refine Wp.afterS ?_
  refine Wp.lmul (pc' := 15) d2_14 rfl ?_
  refine Wp.lstoreN_2 (pc' := 16) d2_15 rfl rfl ?_
  refine Wp.lloadN (pc' := 17) d2_16 rfl rfl ?_
  refine Wp.lloadN (pc' := 18) d2_17 rfl rfl ?_
  refine Wp.bipush (33) (pc' := 20) d2_18 rfl rfl ?_
  refine Wp.lushr (pc' := 21) d2_20 rfl ?_
  refine Wp.lxor (pc' := 22) d2_21 rfl ?_
  refine Wp.lstoreN_2 (pc' := 23) d2_22 rfl rfl ?_
  refine Wp.lloadN (pc' := 24) d2_23 rfl rfl ?_
  refine Wp.ldcL (pc' := 27) (w15 hw) d2_24 rfl ?_
  refine Wp.callS_1 2 (pc' := 30) (rm := rm3) (w11 hw) (w12 hw) (w8 hw) (w13 hw) (by decide) pd0 rfl d2_27 rfl rfl (by decide) (by decide) (by decide) (by decide) rfl rfl rfl ?_
  refine (con3 hw _ _).mono ?_
  rintro _ _ ⟨rfl, rfl⟩
  refine Wp.afterS ?_
  refine Wp.lmul (pc' := 31) d2_30 rfl ?_
  refine Wp.lstoreN_2 (pc' := 32) d2_31 rfl rfl ?_
  refine Wp.lloadN (pc' := 33) d2_32 rfl rfl ?_
  refine Wp.lloadN (pc' := 34) d2_33 rfl rfl ?_
  refine Wp.bipush (33) (pc' := 36) d2_34 rfl rfl ?_
  refine Wp.lushr (pc' := 37) d2_36 rfl ?_
  refine Wp.lxor (pc' := 38) d2_37 rfl ?_
  refine Wp.lreturn rfl d2_38 ?_
  exact ⟨rfl, rfl⟩
theorem law_con (l : Launch) (Z : State) (a0 : Array Value) (n0 : Nat) (hw : Hw Z a0) (z : Int64) :
    C0 l Z a0 n0 #[.long z] [] (fun v _ => v = some (.int 1)) := by
  refine Wp.Con.intro pn0 (fun m => ef0 m z) ?_
  refine Wp.lloadN (pc' := 1) at_0 rfl rfl ?_
  refine Wp.callS_1 0 (pc' := 4) (rm := rm1) (w0 hw) (w1 hw) (w2 hw) (w3 hw) (by decide) pd0 rfl at_1 rfl rfl (by decide) (by decide) (by decide) (by decide) rfl rfl rfl ?_
  refine (con1 hw _ _).mono ?_
  rintro _ _ ⟨rfl, rfl⟩
  refine Wp.afterS ?_
  refine Wp.callS_1 0 (pc' := 7) (rm := rm2) (w6 hw) (w7 hw) (w8 hw) (w9 hw) (by decide) pd0 rfl at_4 rfl rfl (by decide) (by decide) (by decide) (by decide) rfl rfl rfl ?_
  refine (con2 hw _ _).mono ?_
  rintro _ _ ⟨rfl, rfl⟩
  refine Wp.afterS ?_
  refine Wp.lloadN (pc' := 8) at_7 rfl rfl ?_
  refine Wp.lcmp_ne (pt := 16) (pf := 12) at_8 rfl at_9 (by decide) rfl (fun hc9 => ?_) (fun hc9 => ?_)
  · exact absurd (own_mix z) hc9
  · refine Wp.iconst (1) (pc' := 13) at_12 rfl rfl ?_
    refine Wp.goto (pc' := 17) at_13 (by decide) ?_
    refine Wp.zreturn rfl at_17 ?_
    rfl
set_option maxRecDepth 65536 in
theorem comes_1 {Post : Tables → Env → Array Value → State → Outcome → State → Prop} (hpost : ∀ tb e args s v u, (limb_1_1.after args s (.returned v) u = true ∧ limb_1_2.after args s (.returned v) u = true ∧ True) → FrameEnd s (.returned v) u (Jvm.fieldLocs frame_1_writes args s ++ Jvm.arrayLocs frame_1_arrays args s ++ Jvm.staticLocs frame_1_statics s) room_1.cells room_1.slots → Post tb e args s (.returned v) u) :
    ArmFor flags0 classFile x code maxLocals ret World_1 tables_1 room_1 Calls_1 rest_1 Pre_1 Post := by
  intro l hfl _ _ p e ha hc hk s m args below hf hA hF happ hP
  obtain ⟨hcalls, hrest, hpre⟩ := hP
  obtain ⟨-, -, -, hnamed, -, -, -, hat⟩ := (Spec.applies_iff hf).mp happ
  obtain ⟨hg, hn⟩ := and_e (Cond.before_iff.mp (show (Jvm.Cond.and given_1 narrow_1).before args s = true from hpre))
  obtain ⟨hcnt, g0⟩ := and_e hg
  obtain ⟨y0, rfl⟩ : ∃ y0 : Value, args = #[y0] := by
    have hs : args.size = 1 := by simpa [Cond.value, given_1] using hcnt
    obtain ⟨L⟩ := args
    match L, hs with
    | [y0], _ => exact ⟨y0, rfl⟩
  have hw := fun d (hd : d ∈ tables_1) => atoms_spec (ws := Jvm.Cond.code x code maxLocals ret :: tables_1) hat d (List.mem_cons_of_mem _ hd)
  obtain ⟨i0, e0⟩ := isL_v g0
  obtain rfl : y0 = .long i0 := Option.some.inj e0
  obtain ⟨n, o, h1, h2, h3, v, L, rfl, ⟨N, H', hR', rfl⟩, hq⟩ := law_con l s _ s.heap.size hw i0 tables_1 s.heap ⟨Nat.le_refl _, List.nodup_nil, fun _ q => nomatch q⟩ p e ha hc hk s m _ below hf ((Spec.applies_iff_loose hf).mp happ).1 ⟨rfl, State.Warmed39.refl s, rfl⟩ trivial
  refine ⟨n, _, h1, h2, h3, hpost _ _ _ _ _ _ ⟨Cond.after_iff.mpr rfl, Cond.after_iff.mpr (eq_i res_at (Term.int_eval (1)) rfl), trivial⟩ ⟨hq.1, hq.2.1, (hq.2.2.sift fun y hy => Or.inr (N y hy)).mono (by decide) (by decide)⟩⟩
theorem main_1_1 : Claimed_1_1 := comes_1 fun _ _ _ _ _ _ h hF => ⟨h.1, hF⟩
theorem main_1_2 : Claimed_1_2 := comes_1 fun _ _ _ _ _ _ h hF => ⟨h.2.1, hF⟩
end Jvm.Pilot.@@N@@
namespace Jvm.Pilot.@@N@@
open Jvm Jvm.ClassFile Sem Op Lib Jvm.Free Jvm.Stand Jvm.Pilot.@@N@@.Jvm.D
/-! MADE BY PROGRAM (witnessworld.py) out of the Statement's table words and the real class files: 9 classes; the members and pool entries that the words name. The judged class is class 1, her method 3. -/
namespace start1
open Jvm.ClassFile
def u (s : String) : CpInfo := .utf8 (stringToUtf16 s)
/-- a pool by its gaps: so many unusable entries, then the entry; so many at the end -/
def gap : Nat → List CpInfo → List CpInfo
  | 0, r => r
  | n + 1, r => .unusable :: gap n r
def poolList (es : List (Nat × CpInfo)) (last : Nat) : List CpInfo := es.foldr (fun e r => gap e.1 (e.2 :: r)) (gap last [])
def pool (es : List (Nat × CpInfo)) (last : Nat) : Array CpInfo := ⟨poolList es last⟩
def fileOf (pool : Array CpInfo) (this : Nat) (attrs : Array Attribute := #[]) (ms : Array MethodInfo := #[]) (fl : Nat := 33) (sup : Nat := 0) (ifs : Array Nat := #[]) (fds : Array FieldInfo := #[]) : ClassFile where
  minorVersion := 0
  majorVersion := 65
  constantPool := pool
  accessFlags := fl
  thisClass := this
  superClass := sup
  interfaces := ifs
  fields := fds
  methods := ms
  attributes := attrs
def plain (name : String) (sup : Option ClassId) : Class where
  name := name
  kind := .ordinary
  loader := none
  accessFlags := 33
  super := sup
  interfaces := #[]
  cf := none
  fields := #[]
  methods := #[]
  instanceTypes := #[]
  staticTypes := #[]
  resolved := #[]
  callSites := []
  init := .initialized
  statics := none
  mirror := none

def pool0 : Array CpInfo := pool [(5, u "<init>"), (0, u "()V"), (1, .class_ 10), (1, u "java/lang/Object")] 113

def k0m0 : Method := { name := "<init>", desc := "()V", sig := { parameters := [], returnType := none }, accessFlags := 1, code := none }
/-- java/lang/Object -/
def k0 : Class := { plain "java/lang/Object" none with
  accessFlags := 33
  interfaces := #[]
  cf := some (fileOf pool0 8 #[] #[{ accessFlags := 1, nameIndex := 5, descriptorIndex := 6, attributes := #[] }] 33 0 #[] #[])
  fields := #[]
  methods := #[k0m0]
  instanceTypes := #[]
  staticTypes := #[]
  resolved := Array.replicate 124 none
  statics := none }

def pool1 : Array CpInfo := pool [(2, .class_ 4), (1, u "java/lang/Object"), (0, u "<init>"), (0, u "()V"), (0, .long 2), (1, .long 14181476777654086739), (1, .methodref 12 13), (0, .class_ 14), (0, .nameAndType 15 16), (0, u "com/example/slim_sieve/slimsieve/ItemHashFinalMixPinLaw"), (0, u "inverse"), (0, u "(J)J"), (0, .long 18397679294719823053), (1, .methodref 20 21), (0, .class_ 22), (0, .nameAndType 23 16), (0, u "com/example/slim_sieve/slimsieve/ItemHash"), (0, u "finalMix"), (0, .methodref 12 25), (0, .nameAndType 26 16), (0, u "unmix"), (2, u "law"), (0, u "(J)Z")] 3

def k1m0 : Method := { name := "<init>", desc := "()V", sig := { parameters := [], returnType := none }, accessFlags := 2, code := none }
def k1c1 : Code := { maxStack := 8, maxLocals := 4, code := method_2_code, exceptionTable := #[], attributes := #[] }
def k1m1 : Method := { name := "inverse", desc := "(J)J", sig := { parameters := [.long], returnType := some .long }, accessFlags := 10, code := some k1c1 }
def k1c2 : Code := { maxStack := 5, maxLocals := 4, code := method_3_code, exceptionTable := #[], attributes := #[] }
def k1m2 : Method := { name := "unmix", desc := "(J)J", sig := { parameters := [.long], returnType := some .long }, accessFlags := 10, code := some k1c2 }
def k1c3 : Code := { maxStack := 4, maxLocals := 2, code := code, exceptionTable := #[], attributes := #[] }
def k1m3 : Method := { name := "law", desc := "(J)Z", sig := { parameters := [.long], returnType := some .boolean }, accessFlags := 9, code := some k1c3 }
/-- com/example/slim_sieve/slimsieve/ItemHashFinalMixPinLaw -/
def k1 : Class := { plain "com/example/slim_sieve/slimsieve/ItemHashFinalMixPinLaw" (some 0) with
  accessFlags := 49
  interfaces := #[]
  cf := some (fileOf pool1 12 #[] #[{ accessFlags := 2, nameIndex := 5, descriptorIndex := 6, attributes := #[] }, { accessFlags := 10, nameIndex := 15, descriptorIndex := 16, attributes := #[] }, { accessFlags := 10, nameIndex := 26, descriptorIndex := 16, attributes := #[] }, { accessFlags := 9, nameIndex := 29, descriptorIndex := 30, attributes := #[] }] 49 2 #[] #[])
  fields := #[]
  methods := #[k1m0, k1m1, k1m2, k1m3]
  instanceTypes := #[]
  staticTypes := #[]
  resolved := Array.replicate 34 none
  statics := none }

def pool2 : Array CpInfo := pool [(2, .class_ 4), (1, u "java/lang/Object"), (3, .class_ 10), (1, u "com/example/slim_sieve/slimsieve/ItemHash"), (0, u "h1"), (0, u "J"), (2, u "h2"), (12, u "LITTLE_ENDIAN_LONGS"), (0, u "Ljava/lang/invoke/VarHandle;"), (61, u "(J)J"), (16, .class_ 110), (1, u "com/example/slim_sieve/slimsieve/ItemHash$FieldHasher"), (39, u "finalMix"), (2, .long 18397679294719823053), (1, .long 14181476777654086739), (15, u "C1"), (1, u "C2"), (0, u "BLOCK_BYTES"), (0, u "I")] 15

def k2c0 : Code := { maxStack := 5, maxLocals := 4, code := prog_12_method_20_code, exceptionTable := #[], attributes := #[] }
def k2m0 : Method := { name := "finalMix", desc := "(J)J", sig := { parameters := [.long], returnType := some .long }, accessFlags := 8, code := some k2c0 }
/-- com/example/slim_sieve/slimsieve/ItemHash -/
def k2 : Class := { plain "com/example/slim_sieve/slimsieve/ItemHash" (some 0) with
  accessFlags := 33
  interfaces := #[]
  cf := some (fileOf pool2 8 #[.nestMembers #[108]] #[{ accessFlags := 8, nameIndex := 150, descriptorIndex := 91, attributes := #[] }] 33 2 #[] #[{ accessFlags := 26, nameIndex := 171, descriptorIndex := 12, attributes := #[] }, { accessFlags := 26, nameIndex := 173, descriptorIndex := 12, attributes := #[] }, { accessFlags := 26, nameIndex := 174, descriptorIndex := 175, attributes := #[] }, { accessFlags := 26, nameIndex := 28, descriptorIndex := 29, attributes := #[] }, { accessFlags := 18, nameIndex := 11, descriptorIndex := 12, attributes := #[] }, { accessFlags := 18, nameIndex := 15, descriptorIndex := 12, attributes := #[] }])
  fields := #[{ name := "C1", type := .long, accessFlags := 26, slot := 0, constantValue := 0 }, { name := "C2", type := .long, accessFlags := 26, slot := 1, constantValue := 0 }, { name := "BLOCK_BYTES", type := .int, accessFlags := 26, slot := 2, constantValue := 0 }, { name := "LITTLE_ENDIAN_LONGS", type := (.object "java/lang/invoke/VarHandle"), accessFlags := 26, slot := 3, constantValue := 0 }, { name := "h1", type := .long, accessFlags := 18, slot := 0, constantValue := 0 }, { name := "h2", type := .long, accessFlags := 18, slot := 1, constantValue := 0 }]
  methods := #[k2m0]
  instanceTypes := #[.long, .long]
  staticTypes := #[.long, .long, .int, (.object "java/lang/invoke/VarHandle")]
  resolved := Array.replicate 191 none
  statics := none }

def pool3 : Array CpInfo := pool [(1, u "java/lang/Cloneable"), (0, .class_ 1), (0, u "java/lang/Object"), (0, .class_ 3)] 3

/-- java/lang/Cloneable -/
def k3 : Class := { plain "java/lang/Cloneable" (some 0) with
  accessFlags := 1537
  interfaces := #[]
  cf := some (fileOf pool3 2 #[] #[] 1537 4 #[] #[])
  fields := #[]
  methods := #[]
  instanceTypes := #[]
  staticTypes := #[]
  resolved := Array.replicate 8 none
  statics := none }

def pool4 : Array CpInfo := pool [(1, u "java/io/Serializable"), (0, .class_ 1), (0, u "java/lang/Object"), (0, .class_ 3)] 3

/-- java/io/Serializable -/
def k4 : Class := { plain "java/io/Serializable" (some 0) with
  accessFlags := 1537
  interfaces := #[]
  cf := some (fileOf pool4 2 #[] #[] 1537 4 #[] #[])
  fields := #[]
  methods := #[]
  instanceTypes := #[]
  staticTypes := #[]
  resolved := Array.replicate 8 none
  statics := none }

/-- the primitive byte -/
def k5 : Class := { plain "byte" none with kind := .primitive 'B', accessFlags := 0x411 }
/-- [B -/
def k6 : Class := { plain "[B" (some 0) with kind := .array 5 .byte, interfaces := #[3, 4], accessFlags := 1041 }

/-- the primitive int -/
def k7 : Class := { plain "int" none with kind := .primitive 'I', accessFlags := 0x411 }
/-- [I -/
def k8 : Class := { plain "[I" (some 0) with kind := .array 7 .int, interfaces := #[3, 4], accessFlags := 1041 }

def heap : Heap := #[]
def classes : Array Class := #[k0, k1, k2, k3, k4, k5, k6, k7, k8]
def interned : List (Array UInt16 × Addr) := []
def slotsUsed : Nat := 0
def theMethod : MethodId := ⟨1, 3⟩
def args0 : Array Value := #[.long 5]
def aboutOver (below : List Frame) : State where
  vm := { classes := classes, interned := interned.toArray }
  heap := heap
  slotsUsed := slotsUsed
  threads := #[{ frames := .invoking theMethod args0 :: below }]
def below0 : List Frame := [.native { method := ⟨0, 0⟩, args := #[] }]
def about1 : State := aboutOver below0
def p0 : Program := .bare "" "" ""
def e0 : Env := launch0.env 0 0 0
theorem w_frames : about1.frames = Frame.invoking theMethod args0 :: below0 := rfl
set_option maxRecDepth 65536 in
theorem w_args : argsFit about1.vm theMethod args0 = true := by decide +kernel
set_option maxRecDepth 65536 in
theorem w_heap : heapFits about1 = true := by decide +kernel
set_option maxRecDepth 65536 in
theorem w_runnable : about1.curStatus? = some .runnable := by decide +kernel
set_option maxRecDepth 65536 in
theorem w_alone : about1.alone = true := by decide +kernel
set_option maxRecDepth 65536 in
theorem w_named : about1.methodNamed? x = some theMethod := by decide +kernel
set_option maxRecDepth 65536 in
theorem w_hears : about1.hears theMethod below0 = true := by decide +kernel
set_option maxRecDepth 65536 in
theorem w_ripe : about1.ripe theMethod args0 below0 = true := by decide +kernel
theorem w_running : about1.status = .running := rfl
set_option maxRecDepth 65536 in
theorem w_room : about1.hasRoom e0.platform room_1 = true :=
  launch0.hasRoom_least _ room_1 (by decide +kernel) (by decide +kernel) (by decide +kernel) (by decide +kernel) (by decide +kernel) (by decide +kernel)
theorem allAtoms_all (ts : List Jvm.Cond) (a : Array Jvm.Value) (st : Jvm.State) : (allAtoms ts).before a st = ts.all (fun c => c.before a st) := by
  induction ts with
  | nil => rfl
  | cons c t ih =>
    show (Jvm.Cond.and c (allAtoms t)).before a st = _
    rw [Jvm.Cond.before_and, ih, List.all_cons]
def words1 : List Jvm.Cond := Jvm.Cond.code x code maxLocals ret :: tables_1
/-- a 'code' word, met by the world's own term for the bytes: nothing is compared byte by byte -/
theorem code_word {y : MethodName} {bytes : ByteArray} {mx : Nat} {rt : Option FieldType} {a : Array Value} {s : State} {m : MethodId} {meth : Method} {c : Code} (h1 : s.methodNamed? y = some m) (h2 : s.vm.method? m = some meth) (h3 : meth.code = some c) (h4 : c.code = bytes)
    (h5 : (c.maxLocals == mx && c.exceptionTable.isEmpty && decide (c.maxStack ≤ mostOperands) && decide (meth.sig.returnType = rt) && !meth.locks && decide (parseMethodDescriptor y.desc = some meth.sig)) = true) : (Jvm.Cond.code y bytes mx rt).before a s = true := by
  simp only [Bool.and_eq_true, beq_iff_eq, Bool.not_eq_true', decide_eq_true_eq] at h5
  obtain ⟨⟨⟨⟨⟨g1, g2⟩, g3⟩, g4⟩, g5⟩, g6⟩ := h5
  simp [Cond.before, Cond.holds, Cond.value, h1, h2, h3, h4, g1, g2, g3, g4, g5, g6]
def isCode : Jvm.Cond → Bool
  | .code _ _ _ _ => true
  | _ => false
theorem all_split {L : List Jvm.Cond} {P : Jvm.Cond → Bool} (h1 : L.all (fun c => isCode c || P c) = true) (h2 : ∀ c ∈ L.filter isCode, P c = true) : L.all P = true := by
  refine List.all_eq_true.mpr fun c hc => ?_
  have h := List.all_eq_true.mp h1 c hc
  rcases Bool.eq_false_or_eq_true (isCode c) with hi | hi
  · exact h2 c (List.mem_filter.mpr ⟨hc, hi⟩)
  · simpa [hi] using h
set_option maxRecDepth 65536 in
theorem w_c0 : (Jvm.Cond.code x code maxLocals ret).before args0 about1 = true := code_word (m := ⟨1, 3⟩) (meth := k1m3) (c := k1c3) (by decide +kernel) rfl rfl rfl (by decide +kernel)
set_option maxRecDepth 65536 in
theorem w_c1 : (Jvm.Cond.code ({ cls := "com/example/slim_sieve/slimsieve/ItemHash", name := "finalMix", desc := "(J)J" } : Jvm.MethodName) prog_12_method_20_code (4 : Nat) (Option.some Jvm.ClassFile.FieldType.long)).before args0 about1 = true := code_word (m := ⟨2, 0⟩) (meth := k2m0) (c := k2c0) (by decide +kernel) rfl rfl rfl (by decide +kernel)
set_option maxRecDepth 65536 in
theorem w_c2 : (Jvm.Cond.code ({ cls := "com/example/slim_sieve/slimsieve/ItemHashFinalMixPinLaw", name := "unmix", desc := "(J)J" } : Jvm.MethodName) method_3_code (4 : Nat) (Option.some Jvm.ClassFile.FieldType.long)).before args0 about1 = true := code_word (m := ⟨1, 2⟩) (meth := k1m2) (c := k1c2) (by decide +kernel) rfl rfl rfl (by decide +kernel)
set_option maxRecDepth 65536 in
theorem w_c3 : (Jvm.Cond.code ({ cls := "com/example/slim_sieve/slimsieve/ItemHashFinalMixPinLaw", name := "inverse", desc := "(J)J" } : Jvm.MethodName) method_2_code (4 : Nat) (Option.some Jvm.ClassFile.FieldType.long)).before args0 about1 = true := code_word (m := ⟨1, 1⟩) (meth := k1m1) (c := k1c1) (by decide +kernel) rfl rfl rfl (by decide +kernel)
def codes1 : List Jvm.Cond := [Jvm.Cond.code x code maxLocals ret, Jvm.Cond.code ({ cls := "com/example/slim_sieve/slimsieve/ItemHash", name := "finalMix", desc := "(J)J" } : Jvm.MethodName) prog_12_method_20_code (4 : Nat) (Option.some Jvm.ClassFile.FieldType.long), Jvm.Cond.code ({ cls := "com/example/slim_sieve/slimsieve/ItemHashFinalMixPinLaw", name := "unmix", desc := "(J)J" } : Jvm.MethodName) method_3_code (4 : Nat) (Option.some Jvm.ClassFile.FieldType.long), Jvm.Cond.code ({ cls := "com/example/slim_sieve/slimsieve/ItemHashFinalMixPinLaw", name := "inverse", desc := "(J)J" } : Jvm.MethodName) method_2_code (4 : Nat) (Option.some Jvm.ClassFile.FieldType.long)]
set_option maxRecDepth 65536 in
theorem codes_eq : words1.filter isCode = codes1 := rfl
theorem w_codes : ∀ c ∈ words1.filter isCode, c.before args0 about1 = true := by
  rw [codes_eq]
  intro c hc
  simp only [codes1, List.mem_cons, List.not_mem_nil, or_false] at hc
  rcases hc with rfl | rfl | rfl | rfl
  · exact w_c0
  · exact w_c1
  · exact w_c2
  · exact w_c3
set_option maxRecDepth 65536 in
theorem w_t1 : words1.all (fun c => isCode c || c.before args0 about1) = true := by decide +kernel
theorem w_tables : (allAtoms (Jvm.Cond.code x code maxLocals ret :: tables_1)).before args0 about1 = true := by
  rw [allAtoms_all]
  show words1.all (fun c => c.before args0 about1) = true
  refine all_split ?_ w_codes
  rw [w_t1]
set_option maxRecDepth 65536 in
theorem w_case : (Jvm.Cond.and given_1 narrow_1).before args0 about1 = true := by decide +kernel
theorem w_applies : (headSpec (Jvm.Cond.code x code maxLocals ret :: tables_1) room_1).applies x e0.platform about1 = true :=
  (Spec.applies_iff w_frames).mpr ⟨w_running, w_runnable, w_alone, w_named, w_hears, w_ripe, w_room, w_tables⟩
theorem atStart : AtStart classFile x code maxLocals ret World_1 tables_1 room_1 Calls_1 rest_1 Pre_1 launch0 p0 e0 about1 theMethod args0 below0 :=
  ⟨lists_1, trivial, launch0.admits_env _ _ _, launch0.least_env, fairChoices_fair.cas, fairChoices_fair.clock, w_frames, w_args, w_heap, w_applies, trivial, trivial, w_case⟩
end start1
theorem witness_1 : WitnessClaimed_1 := ⟨start1.p0, start1.e0, start1.about1, start1.theMethod, start1.args0, start1.below0, start1.atStart⟩
end Jvm.Pilot.@@N@@
