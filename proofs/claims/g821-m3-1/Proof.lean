import JvmDerived
import JvmDerived.Pilot.@@N@@Statement
import JvmDerived.Pilot.@@N@@Code
set_option linter.unusedVariables false
set_option linter.unusedSimpArgs false
namespace Jvm.RoadKit
open Sem ClassFile Op Lib Jvm.Stand Jvm.Free Jvm.LawKit
section New
variable {p : Program} {l : Launch} {e : Env} {R : Room} {s : State} {m : MethodId} {args : Array Value} {below : List Frame} {meth : Method} {c : Code} {T : State} {locs : List Loc} {cells slots : Nat}
theorem retI (X : Stand p l e R s m args below meth c T locs cells slots) (hx : p.tables.exec = Jvm.exec) {pc : Nat} {Ls : Array Slot} {z : Int32} {rest : List Value} (hret : meth.sig.returnType = some .int) (hd : decode c.code pc = .ok (.ireturn, 1)) {fs : List Frame}
    (hl : ∀ (f : JFrame) (acts : List Action), f.method = m → f.locked = none → f.entered = [] → (doReturn e (T.setTop f) acts (some (.int z))).1 = T.setFrames fs) : Steps p.tables e below (T.setTop (mkF m pc Ls (.int z :: rest))) (T.setFrames fs) := by
  have hm' : T.vm.method? m = some meth := X.method'
  have hn : narrow .int (.int z) = .int z := rfl
  show Steps p.tables e below (T.setTop { method := m, pc := pc, locals := Ls, stack := _ :: rest, locked := none }) _
  jvm_step X.here [X.here.top, hx, hd, hm', hret, hn]
  first | (intro acts; rw [hl _ acts rfl rfl rfl]) | rw [hl _ _ rfl rfl rfl]
  exact Steps.refl _
end New
end Jvm.RoadKit
namespace Jvm.Wp
open Sem ClassFile Op Lib Jvm.Free Jvm.Stand Jvm.LawKit Jvm.RoadKit

/-- a cell of the walk's own small heap: an array (its kind, its values) or an object (its class, its fields: name, descriptor, value) -/
abbrev MC : Type := Sum (FieldType × List Value) (String × List (String × String × Value))
abbrev MH : Type := List (Addr × MC)
def COk (Z : State) (a0 : Array Value) (h : Heap) (a : Addr) : MC → Prop
  | .inl (ty, vs) => ∃ c : Cell, Arr Z h a c ty ∧ c.slots = vs.toArray ∧ vs.length < 2 ^ 31
  | .inr (C, fs) => Exa Z h a C ∧ (fs.map (·.1)).Nodup ∧ ∀ x ∈ fs, Fld Z h a C x.1 x.2.1 x.2.2 ∧ Laid Z a0 C C x.1 x.2.1 ∧ ∃ t, parseFieldDescriptor x.2.1 = some t
def Rel (Z : State) (a0 : Array Value) (n0 : Nat) (H : MH) (h : Heap) : Prop := n0 ≤ h.size ∧ (H.map (·.1)).Nodup ∧ ∀ x ∈ H, n0 ≤ x.1 ∧ COk Z a0 h x.1 x.2

theorem COk.lt {Z : State} {a0 : Array Value} {h : Heap} {a : Addr} {c : MC} (k : COk Z a0 h a c) : a < h.size := by
  cases c with
  | inl q => obtain ⟨ty, vs⟩ := q; obtain ⟨c, A, -⟩ := k; exact A.lt
  | inr q => obtain ⟨C, fs⟩ := q; exact k.1.lt
theorem COk.ext {Z : State} {a0 : Array Value} {h h' : Heap} {a : Addr} {c : MC} (E : Ext h h') (k : COk Z a0 h a c) : COk Z a0 h' a c := by
  cases c with
  | inl q => obtain ⟨ty, vs⟩ := q; obtain ⟨c, A, r⟩ := k; exact ⟨c, A.ext E, r⟩
  | inr q => obtain ⟨C, fs⟩ := q; exact ⟨k.1.ext E, k.2.1, fun x hx => ⟨(k.2.2 x hx).1.ext E, (k.2.2 x hx).2⟩⟩
theorem Rel.ext {Z : State} {a0 : Array Value} {n0 : Nat} {H : MH} {h h' : Heap} (E : Ext h h') (r : Rel Z a0 n0 H h) : Rel Z a0 n0 H h' := ⟨Nat.le_trans r.1 E.1, r.2.1, fun x hx => ⟨(r.2.2 x hx).1, (r.2.2 x hx).2.ext E⟩⟩
theorem Rel.push {Z : State} {a0 : Array Value} {n0 : Nat} {H : MH} {h h' : Heap} {c : MC} (E : Ext h h') (r : Rel Z a0 n0 H h) (k : COk Z a0 h' h.size c) : Rel Z a0 n0 ((h.size, c) :: H) h' := by
  refine ⟨Nat.le_trans r.1 E.1, ?_, fun x hx => ?_⟩
  · rw [List.map_cons, List.nodup_cons]
    refine ⟨fun q => ?_, r.2.1⟩
    obtain ⟨x, hx, e⟩ := List.mem_map.mp q
    have h1 := (r.2.2 x hx).2.lt
    rw [e] at h1
    exact Nat.lt_irrefl _ h1
  · rcases List.mem_cons.mp hx with rfl | q
    · exact ⟨r.1, k⟩
    · exact ⟨(r.2.2 x q).1, (r.2.2 x q).2.ext E⟩
/-- from pc on, with these locals, this stack, this small heap: the method returns, and Q holds of what it returns and of the small heap at the end -/
def WP (l : Launch) (Z : State) (a0 : Array Value) (n0 : Nat) (R : Room) (y : MethodName) (code : ByteArray) (mx : Nat) (ret : Option FieldType) (cells slots pc : Nat) (Ls : List Slot) (st : List Value) (H : MH) (Q : Option Value → MH → Prop) : Prop :=
  ∀ (p : Program) (e : Env) (s : State) (m : MethodId) (args : Array Value) (below : List Frame) (meth : Method) (c : Code) (T : State) (locs : List Loc),
    Stand p l e R s m args below meth c T locs cells slots → p.tables.exec = Jvm.exec → Z.Warmed39 s.vm → c.code = code → c.maxLocals = mx → s.vm.findClass y.cls = some m.cls → meth.name = y.name → meth.sig.returnType = ret → meth.locks = false →
    Fr n0 locs → Rel Z a0 n0 H T.heap → cells ≤ R.cells → slots ≤ R.slots →
    ∃ v H' L s₂, Steps p.tables e below (T.setTop (mkF m pc ⟨Ls⟩ st)) s₂ ∧ s₂.status = .running ∧ Ended s₂ below (.returned v) ∧ Fr n0 L ∧ Rel Z a0 n0 H' s₂.heap ∧ Q v H' ∧ s.WarmedH s₂.vm ∧ s.sameButNew ({ s₂ with vm := s.vm } : State) L R.cells R.slots
/-- a method's contract: called with these arguments over this small heap it returns, and Q holds -/
def Con (l : Launch) (Z : State) (a0 : Array Value) (n0 : Nat) (y : MethodName) (code : ByteArray) (mx : Nat) (ret : Option FieldType) (rm : Room) (as : Array Value) (H : MH) (Q : Option Value → MH → Prop) : Prop :=
  ∀ (ws : List Cond) (h0 : Heap), Rel Z a0 n0 H h0 → MetFree l y (head1 (Cond.code y code mx ret :: ws) rm) (fun a U => a = as ∧ Z.Warmed39 U.vm ∧ U.heap = h0) (fun _ _ _ _ _ => True)
    (fun _ U o U' => ∃ v L, o = .returned v ∧ (Fr n0 L ∧ ∃ H', Rel Z a0 n0 H' U'.heap ∧ Q v H') ∧ FrameEnd U o U' L rm.cells rm.slots)

variable {l : Launch} {Z : State} {a0 : Array Value} {n0 : Nat} {R : Room} {y : MethodName} {code : ByteArray} {mx : Nat} {ret : Option FieldType} {cells slots pc : Nat} {Ls : List Slot} {st : List Value} {H : MH} {Q : Option Value → MH → Prop}

def locsOf : List Value → List Slot
  | [] => []
  | v :: t => if v.category = 2 then .val v :: .second :: locsOf t else .val v :: locsOf t
theorem foldl_locs (l : List Value) : ∀ acc : Array Slot, l.foldl (fun acc v => if v.category = 2 then (acc.push (.val v)).push .second else acc.push (.val v)) acc = acc ++ (locsOf l).toArray := by
  induction l with
  | nil => intro acc; simp [locsOf]
  | cons v t ih =>
    intro acc
    rw [List.foldl_cons, ih, locsOf]
    split <;> simp
theorem efG (m : MethodId) (l : List Value) (mx : Nat) : entryFrame m l.toArray mx = mkF m 0 ⟨locsOf l ++ List.replicate (mx - (locsOf l).length) .unset⟩ [] := by
  have h : argsToLocals l.toArray mx = ⟨locsOf l ++ List.replicate (mx - (locsOf l).length) .unset⟩ := by
    unfold argsToLocals
    rw [show l.toArray.foldl (init := #[]) (fun acc v => if v.category = 2 then (acc.push (.val v)).push .second else acc.push (.val v)) = (locsOf l).toArray by rw [List.foldl_toArray, foldl_locs]; simp]
    apply Array.ext'
    simp
  simp only [entryFrame, mkF, h]
theorem Con.intro {rm : Room} {as : Array Value} (hpn : plainFor y = true) (hE : ∀ m, entryFrame m as mx = mkF m 0 ⟨Ls⟩ []) (h : WP l Z a0 n0 rm y code mx ret 0 0 0 Ls [] H Q) : Con l Z a0 n0 y code mx ret rm as H Q := by
  intro ws h0 hR
  refine MetFree.of_bodySF hpn hisR ?_
  intro p e s m args below meth c s₁ Bd hml0 hP hK
  obtain ⟨rfl, hZ, hh⟩ := hP
  have e0 : s₁.heap = h0 := by rw [← hh, Bd.state]; rfl
  obtain ⟨v, H', L, s2, k1, k2, k3, k4, k5, k6, k7, k8⟩ := h p e s m _ below meth c s₁ [] (Stand.of_body Bd) Bd.exec hZ Bd.bytes hml0 (findClass_of_methodNamed Bd.named) (name_of_methodNamed Bd.named Bd.method).1 Bd.returns Bd.notSynchronized (Fr.nil n0) (by rw [e0]; exact hR) (Nat.zero_le _) (Nat.zero_le _)
  exact ⟨s2, _, castTop (hE m) k1, k2, k3, v, L, rfl, ⟨k4, H', k5, k6⟩, ⟨_, rfl⟩, k7, k8⟩
theorem Con.mono {rm : Room} {as : Array Value} {Q' : Option Value → MH → Prop} (h : Con l Z a0 n0 y code mx ret rm as H Q) (k : ∀ v H', Q v H' → Q' v H') : Con l Z a0 n0 y code mx ret rm as H Q' := by
  intro ws h0 hR p e ha hc hk s m args below hf happ hP hK
  obtain ⟨n, o, q1, q2, q3, v, L, q4, ⟨q5, H', q6, q7⟩, q8⟩ := h ws h0 hR p e ha hc hk s m args below hf happ hP hK
  exact ⟨n, o, q1, q2, q3, v, L, q4, ⟨q5, H', q6, k _ _ q7⟩, q8⟩
theorem WP.mono {Q' : Option Value → MH → Prop} (h : WP l Z a0 n0 R y code mx ret cells slots pc Ls st H Q) (k : ∀ v H', Q v H' → Q' v H') : WP l Z a0 n0 R y code mx ret cells slots pc Ls st H Q' := by
  intro p e s m args below meth c T locs X hx hZ hc hm ho hn hr hl hF hR g1 g2
  obtain ⟨v, H', L, s2, k1, k2, k3, k4, k5, k6, k7⟩ := h p e s m args below meth c T locs X hx hZ hc hm ho hn hr hl hF hR g1 g2
  exact ⟨v, H', L, s2, k1, k2, k3, k4, k5, k _ _ k6, k7⟩

/-- a step that moves the frame alone -/
theorem pure {pc' : Nat} {Ls' : List Slot} {st' : List Value}
    (h : ∀ (p : Program) (e : Env) (m : MethodId) (below : List Frame) (c : Code) (T target : State), At T m c below → p.tables.exec = Jvm.exec → c.code = code → Steps p.tables e below (T.setTop (mkF m pc' ⟨Ls'⟩ st')) target → Steps p.tables e below (T.setTop (mkF m pc ⟨Ls⟩ st)) target)
    (k : WP l Z a0 n0 R y code mx ret cells slots pc' Ls' st' H Q) : WP l Z a0 n0 R y code mx ret cells slots pc Ls st H Q := by
  intro p e s m args below meth c T locs X hx hZ hc hm ho hn hr hl hF hR g1 g2
  obtain ⟨v, H', L, s2, k1, k2⟩ := k p e s m args below meth c T locs X hx hZ hc hm ho hn hr hl hF hR g1 g2
  exact ⟨v, H', L, s2, h p e m below c T s2 X.here hx hc k1, k2⟩
/-- a step that hands back a new state over the same heap -/
theorem stepT {pc' : Nat} {Ls' : List Slot} {st' : List Value}
    (h : ∀ (p : Program) (e : Env) (s : State) (m : MethodId) (args : Array Value) (below : List Frame) (meth : Method) (c : Code) (T : State) (locs : List Loc), Stand p l e R s m args below meth c T locs cells slots → p.tables.exec = Jvm.exec → Z.Warmed39 s.vm → c.code = code → c.maxLocals = mx → s.vm.findClass y.cls = some m.cls → Rel Z a0 n0 H T.heap →
      ∃ T', Stand p l e R s m args below meth c T' locs cells slots ∧ T'.heap = T.heap ∧ ∀ target, Steps p.tables e below (T'.setTop (mkF m pc' ⟨Ls'⟩ st')) target → Steps p.tables e below (T.setTop (mkF m pc ⟨Ls⟩ st)) target)
    (k : WP l Z a0 n0 R y code mx ret cells slots pc' Ls' st' H Q) : WP l Z a0 n0 R y code mx ret cells slots pc Ls st H Q := by
  intro p e s m args below meth c T locs X hx hZ hc hm ho hn hr hl hF hR g1 g2
  obtain ⟨T', X', e', st⟩ := h p e s m args below meth c T locs X hx hZ hc hm ho hR
  obtain ⟨v, H', L, s2, k1, k2⟩ := k p e s m args below meth c T' locs X' hx hZ hc hm ho hn hr hl hF (by rw [e']; exact hR) g1 g2
  exact ⟨v, H', L, s2, st _ k1, k2⟩
theorem lloadN {k : Fin 4} {v : Int64} {pc' : Nat} (hd : decode code pc = .ok (.lload_n k, 1)) (hl : Ls[k.val]? = some (.val (.long v))) (hp : pc + 1 = pc') (w : WP l Z a0 n0 R y code mx ret cells slots pc' Ls (.long v :: st) H Q) : WP l Z a0 n0 R y code mx ret cells slots pc Ls st H Q := by
  subst hp
  exact pure (fun p e m below c T t h hx hc hs => XS.lloadN h hx rfl (hb hc hd) (by simpa using hl) hs) w
theorem lload {k : Nat} {v : Int64} {pc' : Nat} (hd : decode code pc = .ok (.lload k, 2)) (hl : Ls[k]? = some (.val (.long v))) (hp : pc + 2 = pc') (w : WP l Z a0 n0 R y code mx ret cells slots pc' Ls (.long v :: st) H Q) : WP l Z a0 n0 R y code mx ret cells slots pc Ls st H Q := by
  subst hp
  exact pure (fun p e m below c T t h hx hc hs => XS.lload h hx rfl (hb hc hd) (by simpa using hl) hs) w
theorem iconst {i : Int} (n : Int32) {pc' : Nat} (hd : decode code pc = .ok (.iconst i, 1)) (hn : Int32.ofInt i = n) (hp : pc + 1 = pc') (w : WP l Z a0 n0 R y code mx ret cells slots pc' Ls (.int n :: st) H Q) : WP l Z a0 n0 R y code mx ret cells slots pc Ls st H Q := by
  subst hp hn
  exact pure (fun p e m below c T t h hx hc hs => XS.iconst h hx rfl (hb hc hd) hs) w
theorem bipush {i : Int} (n : Int32) {pc' : Nat} (hd : decode code pc = .ok (.bipush i, 2)) (hn : (Int8.ofInt i).toInt32 = n) (hp : pc + 2 = pc') (w : WP l Z a0 n0 R y code mx ret cells slots pc' Ls (.int n :: st) H Q) : WP l Z a0 n0 R y code mx ret cells slots pc Ls st H Q := by
  subst hp hn
  exact pure (fun p e m below c T t h hx hc hs => XS.bipush h hx rfl (hb hc hd) hs) w
theorem lconst {i : Fin 2} (n : Int64) {pc' : Nat} (hd : decode code pc = .ok (.lconst i, 1)) (hn : Int64.ofNat i = n) (hp : pc + 1 = pc') (w : WP l Z a0 n0 R y code mx ret cells slots pc' Ls (.long n :: st) H Q) : WP l Z a0 n0 R y code mx ret cells slots pc Ls st H Q := by
  subst hp hn
  exact pure (fun p e m below c T t h hx hc hs => XS.lconst h hx rfl (hb hc hd) hs) w
theorem ladd {x z : Int64} {pc' : Nat} (hd : decode code pc = .ok (.ladd, 1)) (hp : pc + 1 = pc') (w : WP l Z a0 n0 R y code mx ret cells slots pc' Ls (.long (x + z) :: st) H Q) : WP l Z a0 n0 R y code mx ret cells slots pc Ls (.long z :: .long x :: st) H Q := by
  subst hp
  exact pure (fun p e m below c T t h hx hc hs => XS.ladd h hx rfl (hb hc hd) rfl hs) w
theorem lsub {x z : Int64} {pc' : Nat} (hd : decode code pc = .ok (.lsub, 1)) (hp : pc + 1 = pc') (w : WP l Z a0 n0 R y code mx ret cells slots pc' Ls (.long (x - z) :: st) H Q) : WP l Z a0 n0 R y code mx ret cells slots pc Ls (.long z :: .long x :: st) H Q := by
  subst hp
  exact pure (fun p e m below c T t h hx hc hs => XS.lsub h hx rfl (hb hc hd) rfl hs) w
theorem land {x z : Int64} {pc' : Nat} (hd : decode code pc = .ok (.land, 1)) (hp : pc + 1 = pc') (w : WP l Z a0 n0 R y code mx ret cells slots pc' Ls (.long (x &&& z) :: st) H Q) : WP l Z a0 n0 R y code mx ret cells slots pc Ls (.long z :: .long x :: st) H Q := by
  subst hp
  exact pure (fun p e m below c T t h hx hc hs => XS.land h hx rfl (hb hc hd) rfl hs) w
theorem lshr {x : Int64} {z : Int32} {pc' : Nat} (hd : decode code pc = .ok (.lshr, 1)) (hp : pc + 1 = pc') (w : WP l Z a0 n0 R y code mx ret cells slots pc' Ls (.long (x >>> (z &&& 0x3f).toInt64) :: st) H Q) : WP l Z a0 n0 R y code mx ret cells slots pc Ls (.int z :: .long x :: st) H Q := by
  subst hp
  exact pure (fun p e m below c T t h hx hc hs => XS.lshr h hx rfl (hb hc hd) rfl hs) w
theorem lrem {x z : Int64} {pc' : Nat} (hd : decode code pc = .ok (.lrem, 1)) (hz : z ≠ 0) (hp : pc + 1 = pc') (w : WP l Z a0 n0 R y code mx ret cells slots pc' Ls (.long (x - (x / z) * z) :: st) H Q) : WP l Z a0 n0 R y code mx ret cells slots pc Ls (.long z :: .long x :: st) H Q := by
  subst hp
  exact pure (fun p e m below c T t h hx hc hs => XS.lrem h hx rfl (hb hc hd) rfl hz hs) w
theorem lneg {x : Int64} {pc' : Nat} (hd : decode code pc = .ok (.lneg, 1)) (hp : pc + 1 = pc') (w : WP l Z a0 n0 R y code mx ret cells slots pc' Ls (.long (-x) :: st) H Q) : WP l Z a0 n0 R y code mx ret cells slots pc Ls (.long x :: st) H Q := by
  subst hp
  exact pure (fun p e m below c T t h hx hc hs => XS.lneg h hx rfl (hb hc hd) rfl hs) w
theorem lcmp {x z : Int64} {pc' : Nat} (hd : decode code pc = .ok (.lcmp, 1)) (hp : pc + 1 = pc') (w : WP l Z a0 n0 R y code mx ret cells slots pc' Ls (.int (lcmpW x z) :: st) H Q) : WP l Z a0 n0 R y code mx ret cells slots pc Ls (.long z :: .long x :: st) H Q := by
  subst hp
  exact pure (fun p e m below c T t h hx hc hs => XS.lcmp h hx rfl (hb hc hd) rfl hs) w
theorem goto {o : Int} {pc' : Nat} (hd : decode code pc = .ok (.goto o, 3)) (hp : (pc : Int) + o = (pc' : Int)) (w : WP l Z a0 n0 R y code mx ret cells slots pc' Ls st H Q) : WP l Z a0 n0 R y code mx ret cells slots pc Ls st H Q :=
  pure (fun p e m below c T t h hx hc hs => XS.goto h hx rfl (pc0 := pc) (pc' := pc') rfl (hb hc hd) (by omega) (by omega) hs) w
theorem hI_lt {x z : Int32} : (if_icmp.holds .lt x z = true → x.toInt < z.toInt) ∧ (if_icmp.holds .lt x z = false → z.toInt ≤ x.toInt) := by
  constructor <;> intro hq <;> simp [if_icmp.holds, Int32.lt_iff_toInt_lt, Int32.le_iff_toInt_le] at hq ⊢ <;> first | omega | exact hq | simp_all
theorem hZ_lt {x : Int32} : (ifCond.holds .lt x = true → x.toInt < 0) ∧ (ifCond.holds .lt x = false → 0 ≤ x.toInt) := by
  rw [if0]
  exact hI_lt (z := 0)
theorem if_lt {x : Int32} {o : Int} {pt pf : Nat} (hd : decode code pc = .ok (.ifCond .lt o, 3)) (hp : (pc : Int) + o = (pt : Int)) (hq : pc + 3 = pf) (wt : x.toInt < 0 → WP l Z a0 n0 R y code mx ret cells slots pt Ls st H Q) (wf : 0 ≤ x.toInt → WP l Z a0 n0 R y code mx ret cells slots pf Ls st H Q) : WP l Z a0 n0 R y code mx ret cells slots pc Ls (.int x :: st) H Q := by
  subst hq
  cases hh : ifCond.holds .lt x
  · exact pure (fun p e m below c T t h hx hc hs => XS.ifNo h hx rfl (hb hc hd) rfl hh hs) (wf (hZ_lt.2 hh))
  · exact pure (fun p e m below c T t h hx hc hs => XS.ifYes h hx rfl (pc0 := pc) (pc' := pt) rfl (hb hc hd) rfl hh (by omega) (by omega) hs) (wt (hZ_lt.1 hh))
theorem lcmp_lt {x z : Int64} {o : Int} {pt pf p1 : Nat} (hd : decode code pc = .ok (.lcmp, 1)) (h1 : pc + 1 = p1) (he : decode code p1 = .ok (.ifCond .lt o, 3)) (hp : (p1 : Int) + o = (pt : Int)) (hq : p1 + 3 = pf) (wt : x.toInt < z.toInt → WP l Z a0 n0 R y code mx ret cells slots pt Ls st H Q) (wf : z.toInt ≤ x.toInt → WP l Z a0 n0 R y code mx ret cells slots pf Ls st H Q) : WP l Z a0 n0 R y code mx ret cells slots pc Ls (.long z :: .long x :: st) H Q :=
  lcmp hd h1 (if_lt he hp hq (fun q => wt ((by obtain ⟨k1, k2, k3⟩ := c_lcmp x z; omega))) fun q => wf ((by obtain ⟨k1, k2, k3⟩ := c_lcmp x z; omega)))
theorem hI_ge {x z : Int32} : (if_icmp.holds .ge x z = true → z.toInt ≤ x.toInt) ∧ (if_icmp.holds .ge x z = false → x.toInt < z.toInt) := by
  constructor <;> intro hq <;> simp [if_icmp.holds, Int32.lt_iff_toInt_lt, Int32.le_iff_toInt_le] at hq ⊢ <;> first | omega | exact hq | simp_all
theorem hZ_ge {x : Int32} : (ifCond.holds .ge x = true → 0 ≤ x.toInt) ∧ (ifCond.holds .ge x = false → x.toInt < 0) := by
  rw [if0]
  exact hI_ge (z := 0)
theorem if_ge {x : Int32} {o : Int} {pt pf : Nat} (hd : decode code pc = .ok (.ifCond .ge o, 3)) (hp : (pc : Int) + o = (pt : Int)) (hq : pc + 3 = pf) (wt : 0 ≤ x.toInt → WP l Z a0 n0 R y code mx ret cells slots pt Ls st H Q) (wf : x.toInt < 0 → WP l Z a0 n0 R y code mx ret cells slots pf Ls st H Q) : WP l Z a0 n0 R y code mx ret cells slots pc Ls (.int x :: st) H Q := by
  subst hq
  cases hh : ifCond.holds .ge x
  · exact pure (fun p e m below c T t h hx hc hs => XS.ifNo h hx rfl (hb hc hd) rfl hh hs) (wf (hZ_ge.2 hh))
  · exact pure (fun p e m below c T t h hx hc hs => XS.ifYes h hx rfl (pc0 := pc) (pc' := pt) rfl (hb hc hd) rfl hh (by omega) (by omega) hs) (wt (hZ_ge.1 hh))
theorem lcmp_ge {x z : Int64} {o : Int} {pt pf p1 : Nat} (hd : decode code pc = .ok (.lcmp, 1)) (h1 : pc + 1 = p1) (he : decode code p1 = .ok (.ifCond .ge o, 3)) (hp : (p1 : Int) + o = (pt : Int)) (hq : p1 + 3 = pf) (wt : z.toInt ≤ x.toInt → WP l Z a0 n0 R y code mx ret cells slots pt Ls st H Q) (wf : x.toInt < z.toInt → WP l Z a0 n0 R y code mx ret cells slots pf Ls st H Q) : WP l Z a0 n0 R y code mx ret cells slots pc Ls (.long z :: .long x :: st) H Q :=
  lcmp hd h1 (if_ge he hp hq (fun q => wt ((by obtain ⟨k1, k2, k3⟩ := c_lcmp x z; omega))) fun q => wf ((by obtain ⟨k1, k2, k3⟩ := c_lcmp x z; omega)))
theorem hI_ne {x z : Int32} : (if_icmp.holds .ne x z = true → ¬ x = z) ∧ (if_icmp.holds .ne x z = false → x = z) := by
  constructor <;> intro hq <;> simp [if_icmp.holds, Int32.lt_iff_toInt_lt, Int32.le_iff_toInt_le] at hq ⊢ <;> first | omega | exact hq | simp_all
theorem hZ_ne {x : Int32} : (ifCond.holds .ne x = true → ¬ x = 0) ∧ (ifCond.holds .ne x = false → x = 0) := by
  rw [if0]
  exact hI_ne (z := 0)
theorem if_ne {x : Int32} {o : Int} {pt pf : Nat} (hd : decode code pc = .ok (.ifCond .ne o, 3)) (hp : (pc : Int) + o = (pt : Int)) (hq : pc + 3 = pf) (wt : ¬ x = 0 → WP l Z a0 n0 R y code mx ret cells slots pt Ls st H Q) (wf : x = 0 → WP l Z a0 n0 R y code mx ret cells slots pf Ls st H Q) : WP l Z a0 n0 R y code mx ret cells slots pc Ls (.int x :: st) H Q := by
  subst hq
  cases hh : ifCond.holds .ne x
  · exact pure (fun p e m below c T t h hx hc hs => XS.ifNo h hx rfl (hb hc hd) rfl hh hs) (wf (hZ_ne.2 hh))
  · exact pure (fun p e m below c T t h hx hc hs => XS.ifYes h hx rfl (pc0 := pc) (pc' := pt) rfl (hb hc hd) rfl hh (by omega) (by omega) hs) (wt (hZ_ne.1 hh))
theorem lcmp_ne {x z : Int64} {o : Int} {pt pf p1 : Nat} (hd : decode code pc = .ok (.lcmp, 1)) (h1 : pc + 1 = p1) (he : decode code p1 = .ok (.ifCond .ne o, 3)) (hp : (p1 : Int) + o = (pt : Int)) (hq : p1 + 3 = pf) (wt : ¬ x = z → WP l Z a0 n0 R y code mx ret cells slots pt Ls st H Q) (wf : x = z → WP l Z a0 n0 R y code mx ret cells slots pf Ls st H Q) : WP l Z a0 n0 R y code mx ret cells slots pc Ls (.long z :: .long x :: st) H Q :=
  lcmp hd h1 (if_ne he hp hq (fun q => wt (fun e => q ((lw_eq x z).mpr e))) fun q => wf ((lw_eq x z).mp q))
def ok1 : Slot → Bool
  | .unset => true
  | .val v => v.category == 1
  | .second => false
def ok2 : Slot → Slot → Bool
  | .val (.long _), .second => true
  | a, b => ok1 a && ok1 b
theorem stl2 (pre : List Slot) {o o' : Slot} {t : List Slot} {x : Int64} (ho : ok2 o o' = true) : storeLocals ⟨pre ++ o :: o' :: t⟩ pre.length (.long x) = some ⟨pre ++ .val (.long x) :: .second :: t⟩ := by
  have hg : (⟨pre ++ o :: o' :: t⟩ : Array Slot)[pre.length]? = some o := by simp
  have hs : ∀ q : Slot, (∀ w, q = .val w → w.category = 1) → storeSelf (⟨pre ++ o :: q :: t⟩ : Array Slot) pre.length (.long x) = some ⟨pre ++ .val (.long x) :: .second :: t⟩ := by
    intro q hq
    have e1 : setAt (⟨pre ++ o :: q :: t⟩ : Array Slot) pre.length (.val (.long x)) = some ⟨pre ++ .val (.long x) :: q :: t⟩ := by simp [setAt, Array.setIfInBounds]
    have e2 : (⟨pre ++ .val (.long x) :: q :: t⟩ : Array Slot)[pre.length + 1]? = some q := by simp
    have e3 : setAt (⟨pre ++ .val (.long x) :: q :: t⟩ : Array Slot) (pre.length + 1) .second = some ⟨pre ++ .val (.long x) :: .second :: t⟩ := by
      simp [setAt, Array.setIfInBounds]
    cases q with
    | unset => simp only [storeSelf, e1]; simp [Value.category, e2, e3]
    | second => simp only [storeSelf, e1]; simp [Value.category, e2, e3]
    | val w =>
      have hw1 : w.category = 1 := hq w rfl
      cases w <;> first | (simp [Value.category] at hw1; done) | (simp only [storeSelf, e1]; simp [Value.category, e2, e3])
  have hl : ∀ w : Value, ok1 (.val w) = true → w.category = 1 := fun w h => by simpa [ok1] using h
  have main : ∀ {o o' : Slot}, ok1 o = true → ok1 o' = true → (∀ q : Slot, (∀ w, q = .val w → w.category = 1) → storeSelf (⟨pre ++ o :: q :: t⟩ : Array Slot) pre.length (.long x) = some ⟨pre ++ .val (.long x) :: .second :: t⟩) → storeLocals ⟨pre ++ o :: o' :: t⟩ pre.length (.long x) = some ⟨pre ++ .val (.long x) :: .second :: t⟩ := by
    intro o o' h1 h2 hs
    have hg : (⟨pre ++ o :: o' :: t⟩ : Array Slot)[pre.length]? = some o := by simp
    have h3 := hs o' fun w e => hl w (by rw [← e]; exact h2)
    cases o with
    | unset => simp only [storeLocals, hg]; exact h3
    | second => cases h1
    | val w =>
      have hw : ¬ w.category = 2 := by have := hl w h1; omega
      simp only [storeLocals, hg]
      show (if w.category = 2 then _ else _) = _
      rw [if_neg hw]; exact h3
  by_cases hb : ok1 o = true ∧ ok1 o' = true
  · exact main hb.1 hb.2 hs
  · have : (∃ z, o = .val (.long z)) ∧ o' = .second := by
      unfold ok2 at ho
      split at ho
      · exact ⟨⟨_, rfl⟩, rfl⟩
      · simp only [Bool.and_eq_true] at ho; exact absurd ho hb
    obtain ⟨⟨z, rfl⟩, rfl⟩ := this
    simp only [storeLocals, hg]
    have e4 : setAt (⟨pre ++ .val (.long z) :: .second :: t⟩ : Array Slot) (pre.length + 1) .unset = some ⟨pre ++ .val (.long z) :: .unset :: t⟩ := by
      simp [setAt, Array.setIfInBounds]
    simp only [Option.bind_eq_bind, Option.bind_some, Value.category, if_true, e4]
    exact hs .unset fun w e => by cases e
theorem lstore_6 {s0 s1 s2 s3 s4 s5 : Slot} {o o' : Slot} {t : List Slot} {x : Int64} {pc' : Nat} (hd : decode code pc = .ok (.lstore 6, 2)) (ho : ok2 o o' = true) (hp : pc + 2 = pc') (w : WP l Z a0 n0 R y code mx ret cells slots pc' (s0 :: s1 :: s2 :: s3 :: s4 :: s5 :: .val (.long x) :: .second :: t) st H Q) : WP l Z a0 n0 R y code mx ret cells slots pc (s0 :: s1 :: s2 :: s3 :: s4 :: s5 :: o :: o' :: t) (.long x :: st) H Q := by
  subst hp
  exact pure (fun p e m below c T t h hx hc' hs => XS.lstore h hx rfl (hb hc' hd) rfl (stl2 [s0, s1, s2, s3, s4, s5] ho) hs) w
theorem lstore_8 {s0 s1 s2 s3 s4 s5 s6 s7 : Slot} {o o' : Slot} {t : List Slot} {x : Int64} {pc' : Nat} (hd : decode code pc = .ok (.lstore 8, 2)) (ho : ok2 o o' = true) (hp : pc + 2 = pc') (w : WP l Z a0 n0 R y code mx ret cells slots pc' (s0 :: s1 :: s2 :: s3 :: s4 :: s5 :: s6 :: s7 :: .val (.long x) :: .second :: t) st H Q) : WP l Z a0 n0 R y code mx ret cells slots pc (s0 :: s1 :: s2 :: s3 :: s4 :: s5 :: s6 :: s7 :: o :: o' :: t) (.long x :: st) H Q := by
  subst hp
  exact pure (fun p e m below c T t h hx hc' hs => XS.lstore h hx rfl (hb hc' hd) rfl (stl2 [s0, s1, s2, s3, s4, s5, s6, s7] ho) hs) w
theorem lstore_10 {s0 s1 s2 s3 s4 s5 s6 s7 s8 s9 : Slot} {o o' : Slot} {t : List Slot} {x : Int64} {pc' : Nat} (hd : decode code pc = .ok (.lstore 10, 2)) (ho : ok2 o o' = true) (hp : pc + 2 = pc') (w : WP l Z a0 n0 R y code mx ret cells slots pc' (s0 :: s1 :: s2 :: s3 :: s4 :: s5 :: s6 :: s7 :: s8 :: s9 :: .val (.long x) :: .second :: t) st H Q) : WP l Z a0 n0 R y code mx ret cells slots pc (s0 :: s1 :: s2 :: s3 :: s4 :: s5 :: s6 :: s7 :: s8 :: s9 :: o :: o' :: t) (.long x :: st) H Q := by
  subst hp
  exact pure (fun p e m below c T t h hx hc' hs => XS.lstore h hx rfl (hb hc' hd) rfl (stl2 [s0, s1, s2, s3, s4, s5, s6, s7, s8, s9] ho) hs) w
theorem lstore_12 {s0 s1 s2 s3 s4 s5 s6 s7 s8 s9 s10 s11 : Slot} {o o' : Slot} {t : List Slot} {x : Int64} {pc' : Nat} (hd : decode code pc = .ok (.lstore 12, 2)) (ho : ok2 o o' = true) (hp : pc + 2 = pc') (w : WP l Z a0 n0 R y code mx ret cells slots pc' (s0 :: s1 :: s2 :: s3 :: s4 :: s5 :: s6 :: s7 :: s8 :: s9 :: s10 :: s11 :: .val (.long x) :: .second :: t) st H Q) : WP l Z a0 n0 R y code mx ret cells slots pc (s0 :: s1 :: s2 :: s3 :: s4 :: s5 :: s6 :: s7 :: s8 :: s9 :: s10 :: s11 :: o :: o' :: t) (.long x :: st) H Q := by
  subst hp
  exact pure (fun p e m below c T t h hx hc' hs => XS.lstore h hx rfl (hb hc' hd) rfl (stl2 [s0, s1, s2, s3, s4, s5, s6, s7, s8, s9, s10, s11] ho) hs) w
theorem lstore_14 {s0 s1 s2 s3 s4 s5 s6 s7 s8 s9 s10 s11 s12 s13 : Slot} {o o' : Slot} {t : List Slot} {x : Int64} {pc' : Nat} (hd : decode code pc = .ok (.lstore 14, 2)) (ho : ok2 o o' = true) (hp : pc + 2 = pc') (w : WP l Z a0 n0 R y code mx ret cells slots pc' (s0 :: s1 :: s2 :: s3 :: s4 :: s5 :: s6 :: s7 :: s8 :: s9 :: s10 :: s11 :: s12 :: s13 :: .val (.long x) :: .second :: t) st H Q) : WP l Z a0 n0 R y code mx ret cells slots pc (s0 :: s1 :: s2 :: s3 :: s4 :: s5 :: s6 :: s7 :: s8 :: s9 :: s10 :: s11 :: s12 :: s13 :: o :: o' :: t) (.long x :: st) H Q := by
  subst hp
  exact pure (fun p e m below c T t h hx hc' hs => XS.lstore h hx rfl (hb hc' hd) rfl (stl2 [s0, s1, s2, s3, s4, s5, s6, s7, s8, s9, s10, s11, s12, s13] ho) hs) w
theorem lstore_16 {s0 s1 s2 s3 s4 s5 s6 s7 s8 s9 s10 s11 s12 s13 s14 s15 : Slot} {o o' : Slot} {t : List Slot} {x : Int64} {pc' : Nat} (hd : decode code pc = .ok (.lstore 16, 2)) (ho : ok2 o o' = true) (hp : pc + 2 = pc') (w : WP l Z a0 n0 R y code mx ret cells slots pc' (s0 :: s1 :: s2 :: s3 :: s4 :: s5 :: s6 :: s7 :: s8 :: s9 :: s10 :: s11 :: s12 :: s13 :: s14 :: s15 :: .val (.long x) :: .second :: t) st H Q) : WP l Z a0 n0 R y code mx ret cells slots pc (s0 :: s1 :: s2 :: s3 :: s4 :: s5 :: s6 :: s7 :: s8 :: s9 :: s10 :: s11 :: s12 :: s13 :: s14 :: s15 :: o :: o' :: t) (.long x :: st) H Q := by
  subst hp
  exact pure (fun p e m below c T t h hx hc' hs => XS.lstore h hx rfl (hb hc' hd) rfl (stl2 [s0, s1, s2, s3, s4, s5, s6, s7, s8, s9, s10, s11, s12, s13, s14, s15] ho) hs) w
theorem ldcL {i : Nat} {n : Int64} {pc' : Nat} (hw : (Cond.constantLong y.cls i n).before a0 Z = true) (hd : decode code pc = .ok (.ldc2_w i, 3)) (hp : pc + 3 = pc') (w : WP l Z a0 n0 R y code mx ret cells slots pc' Ls (.long n :: st) H Q) : WP l Z a0 n0 R y code mx ret cells slots pc Ls st H Q := by
  subst hp
  exact stepT (fun p e s m args below meth c T locs X hx hZ hc hm ho hR => ⟨T, X, rfl, X.ldc2Long hx ho (mvT hZ hw) (g := mkF m pc ⟨Ls⟩ st) rfl (hb hc hd)⟩) w
theorem leaveW {v : Option Value} {st : List Value} (hv : ret = none → v = none) (q : Q v H)
    (h : ∀ (p : Program) (e : Env) (s : State) (m : MethodId) (args : Array Value) (below : List Frame) (meth : Method) (c : Code) (T : State) (locs : List Loc) (fs : List Frame), Stand p l e R s m args below meth c T locs cells slots → p.tables.exec = Jvm.exec → c.code = code → meth.sig.returnType = ret → (∀ (f : JFrame) (acts : List Action), f.method = m → f.locked = none → f.entered = [] → (doReturn e (T.setTop f) acts v).1 = T.setFrames fs) → Steps p.tables e below (T.setTop (mkF m pc ⟨Ls⟩ st)) (T.setFrames fs)) : WP l Z a0 n0 R y code mx ret cells slots pc Ls st H Q := by
  intro p e s m args below meth c T locs X hx hZ hc hm ho hn hr hl hF hR g1 g2
  obtain ⟨fs, hrr, hrun, hended, hW, hsame⟩ := X.leave (v := v) (fun k => hv (by rw [← hr]; exact k)) hl
  exact ⟨v, H, locs, _, h p e s m args below meth c T locs fs X hx hc hr hrr, hrun, hended, hF, hR, q, hW, hsame.mono g1 g2⟩
theorem ireturn {z : Int32} (hret : ret = some .int) (hd : decode code pc = .ok (.ireturn, 1)) (q : Q (some (.int z)) H) : WP l Z a0 n0 R y code mx ret cells slots pc Ls (.int z :: st) H Q :=
  leaveW (fun k => by rw [hret] at k; cases k) q fun p e s m args below meth c T locs fs X hx hc hr hrr => retI X hx (hr.trans hret) (hb hc hd) hrr
theorem zreturn {z : Int32} (hret : ret = some .boolean) (hd : decode code pc = .ok (.ireturn, 1)) (q : Q (some (.int (z &&& 1))) H) : WP l Z a0 n0 R y code mx ret cells slots pc Ls (.int z :: st) H Q :=
  leaveW (fun k => by rw [hret] at k; cases k) q fun p e s m args below meth c T locs fs X hx hc hr hrr => retN X hx (t := .boolean) (hr.trans hret) (by simp) (hb hc hd) hrr
theorem lreturn {z : Int64} (hret : ret = some .long) (hd : decode code pc = .ok (.lreturn, 1)) (q : Q (some (.long z)) H) : WP l Z a0 n0 R y code mx ret cells slots pc Ls (.long z :: st) H Q :=
  leaveW (fun k => by rw [hret] at k; cases k) q fun p e s m args below meth c T locs fs X hx hc hr hrr => retOut X hx (hr.trans hret) rfl (Or.inr (Or.inl ⟨rfl, rfl, _, rfl⟩)) (hb hc hd) hrr
/-- what a call by a contract leaves -/
def After (l : Launch) (Z : State) (a0 : Array Value) (n0 : Nat) (R : Room) (y : MethodName) (code : ByteArray) (mx : Nat) (ret : Option FieldType) (cells slots pc : Nat) (Ls : List Slot) (st : List Value) (Q : Option Value → MH → Prop) : Option Value → MH → Prop
  | some r, H' => WP l Z a0 n0 R y code mx ret cells slots pc Ls (r :: st) H' Q
  | none, H' => WP l Z a0 n0 R y code mx ret cells slots pc Ls st H' Q
theorem After.to {v : Option Value} {H' : MH} (h : After l Z a0 n0 R y code mx ret cells slots pc Ls st Q v H') : WP l Z a0 n0 R y code mx ret cells slots pc Ls (v.toList ++ st) H' Q := by
  cases v <;> exact h
theorem callSG {z : MethodName} {zc : ByteArray} {zm : Nat} {zr : Option FieldType} {ps : List FieldType} {i : Nat} {rm : Room} {pc' : Nat} (W : Nat) (argsL : List Value) {rest : List Value} (w1 : (Cond.methodLink y.cls i z).before a0 Z = true) (w2 : (Cond.static z).before a0 Z = true) (w3 : (Cond.initialized z.cls).before a0 Z = true) (w4 : (Cond.code z zc zm zr).before a0 Z = true) (hy : z.cls ≠ "java/lang/invoke/MethodHandle" ∧ z.cls ≠ "java/lang/invoke/VarHandle") (hds : parseMethodDescriptor z.desc = some ⟨ps, zr⟩) (hlen : argsL.length = ps.length) (hd : decode code pc = .ok (.invokestatic i, 3)) (hs : Ls.length = mx) (hW : (rest.map fun v => v.category).sum = W) (hf : rm.frames + 1 ≤ R.frames) (hl : W + (zm + 11) + rm.locals ≤ R.locals) (hc : cells + rm.cells ≤ R.cells) (hsl : slots + rm.slots ≤ R.slots) (hp : pc + 3 = pc') {cells' slots' : Nat} (hc' : cells + rm.cells = cells') (hs' : slots + rm.slots = slots') (hst : st = argsL.reverse ++ rest)
    (k : Con l Z a0 n0 z zc zm zr rm argsL.toArray H (After l Z a0 n0 R y code mx ret cells' slots' pc' Ls rest Q)) : WP l Z a0 n0 R y code mx ret cells slots pc Ls st H Q := by
  subst hp hst hc' hs'
  intro p e s m args below meth c T locs X hx hZ hcode hm ho hnm hr hlk hF hR g1 g2
  obtain ⟨v, vm, ⟨T', L', k', n'⟩, -, X', ⟨Lc, ⟨q1, H', q2, q3⟩, e1, e2, e3⟩, st'⟩ := Jvm.LawKit.callS X hx (y := z) ho (mvT hZ w1) (mvT hZ w2) (mvT hZ w3) (mvT hZ w4) hy (backOf (W := W) (h := T.heap) (Q := fun v h L => Fr n0 L ∧ ∃ H', Rel Z a0 n0 H' h ∧ After l Z a0 n0 R y code mx ret (cells + rm.cells) (slots + rm.slots) (pc + 3) Ls rest Q v H') (k [] T.heap hR) hZ w4 w3 hf hl) (g := mkF m pc ⟨Ls⟩ (argsL.reverse ++ rest)) rfl (by rw [hm]; simpa using hs) (argsL := argsL) (rest := rest) (lenOf hds hlen) rfl (by show 2 * 0 + _ ≤ _; omega) (hb hcode hd) (fun _ _ => ⟨rfl, rfl, hc, hsl⟩)
  dsimp only [Pt.U, Pt.locs, Pt.cells, Pt.slots] at X' e1 e2 e3 st'
  subst e1 e2 e3
  obtain ⟨v2, H2, L2, s2, k1, k2⟩ := (After.to q3) p e s m args below meth c T' _ X' hx hZ hcode hm ho hnm hr hlk (Fr.app hF q1) q2 hc hsl
  exact ⟨v2, H2, L2, s2, st' _ k1, k2⟩
theorem afterS {r : Value} {H' : MH} (h : WP l Z a0 n0 R y code mx ret cells slots pc Ls (r :: st) H' Q) : After l Z a0 n0 R y code mx ret cells slots pc Ls st Q (some r) H' := h
theorem callS_2 {z : MethodName} {zc : ByteArray} {zm : Nat} {zr : Option FieldType} {ps : List FieldType} {i : Nat} {rm : Room} {pc' : Nat} (W : Nat) {v0 v1 : Value} {rest : List Value} (w1 : (Cond.methodLink y.cls i z).before a0 Z = true) (w2 : (Cond.static z).before a0 Z = true) (w3 : (Cond.initialized z.cls).before a0 Z = true) (w4 : (Cond.code z zc zm zr).before a0 Z = true) (hy : z.cls ≠ "java/lang/invoke/MethodHandle" ∧ z.cls ≠ "java/lang/invoke/VarHandle") (hds : parseMethodDescriptor z.desc = some ⟨ps, zr⟩) (hlen : 2 = ps.length) (hd : decode code pc = .ok (.invokestatic i, 3)) (hs : Ls.length = mx) (hW : (rest.map fun v => v.category).sum = W) (hf : rm.frames + 1 ≤ R.frames) (hl : W + (zm + 11) + rm.locals ≤ R.locals) (hc : cells + rm.cells ≤ R.cells) (hsl : slots + rm.slots ≤ R.slots) (hp : pc + 3 = pc') {cells' slots' : Nat} (hc' : cells + rm.cells = cells') (hs' : slots + rm.slots = slots') (k : Con l Z a0 n0 z zc zm zr rm #[v0, v1] H (After l Z a0 n0 R y code mx ret cells' slots' pc' Ls rest Q)) : WP l Z a0 n0 R y code mx ret cells slots pc Ls (v1 :: v0 :: rest) H Q := callSG W [v0, v1] w1 w2 w3 w4 hy hds hlen hd hs hW hf hl hc hsl hp hc' hs' rfl k
theorem callS_3 {z : MethodName} {zc : ByteArray} {zm : Nat} {zr : Option FieldType} {ps : List FieldType} {i : Nat} {rm : Room} {pc' : Nat} (W : Nat) {v0 v1 v2 : Value} {rest : List Value} (w1 : (Cond.methodLink y.cls i z).before a0 Z = true) (w2 : (Cond.static z).before a0 Z = true) (w3 : (Cond.initialized z.cls).before a0 Z = true) (w4 : (Cond.code z zc zm zr).before a0 Z = true) (hy : z.cls ≠ "java/lang/invoke/MethodHandle" ∧ z.cls ≠ "java/lang/invoke/VarHandle") (hds : parseMethodDescriptor z.desc = some ⟨ps, zr⟩) (hlen : 3 = ps.length) (hd : decode code pc = .ok (.invokestatic i, 3)) (hs : Ls.length = mx) (hW : (rest.map fun v => v.category).sum = W) (hf : rm.frames + 1 ≤ R.frames) (hl : W + (zm + 11) + rm.locals ≤ R.locals) (hc : cells + rm.cells ≤ R.cells) (hsl : slots + rm.slots ≤ R.slots) (hp : pc + 3 = pc') {cells' slots' : Nat} (hc' : cells + rm.cells = cells') (hs' : slots + rm.slots = slots') (k : Con l Z a0 n0 z zc zm zr rm #[v0, v1, v2] H (After l Z a0 n0 R y code mx ret cells' slots' pc' Ls rest Q)) : WP l Z a0 n0 R y code mx ret cells slots pc Ls (v2 :: v1 :: v0 :: rest) H Q := callSG W [v0, v1, v2] w1 w2 w3 w4 hy hds hlen hd hs hW hf hl hc hsl hp hc' hs' rfl k
end Jvm.Wp
namespace Jvm.Pilot.@@N@@
open Jvm Jvm.ClassFile Sem Op Lib Jvm.Free Jvm.Stand Jvm.LawKit Jvm.RoadKit Bundle Jvm.Pilot.@@N@@.Jvm.D
abbrev Hw (Z : State) (a0 : Array Value) : Prop := ∀ d ∈ tables_1, d.before a0 Z = true
theorem w0 {Z : State} {a0 : Array Value} (hw : Hw Z a0) : (Jvm.Cond.constantLong "com/example/slim_sieve/slimsieve/PositionsNextPinLaw" (9 : Nat) (9223372036854775807 : Int64)).before a0 Z = true := hw _ (List.mem_of_getElem? (i := 0) rfl)
theorem w1 {Z : State} {a0 : Array Value} (hw : Hw Z a0) : (Jvm.Cond.methodLink "com/example/slim_sieve/slimsieve/PositionsNextPinLaw" (11 : Nat) ({ cls := "java/lang/Math", name := "max", desc := "(JJ)J" } : Jvm.MethodName)).before a0 Z = true := hw _ (List.mem_of_getElem? (i := 1) rfl)
theorem w2 {Z : State} {a0 : Array Value} (hw : Hw Z a0) : (Jvm.Cond.static ({ cls := "java/lang/Math", name := "max", desc := "(JJ)J" } : Jvm.MethodName)).before a0 Z = true := hw _ (List.mem_of_getElem? (i := 2) rfl)
theorem w3 {Z : State} {a0 : Array Value} (hw : Hw Z a0) : (Jvm.Cond.initialized "java/lang/Math").before a0 Z = true := hw _ (List.mem_of_getElem? (i := 3) rfl)
theorem w4 {Z : State} {a0 : Array Value} (hw : Hw Z a0) : (Jvm.Cond.code ({ cls := "java/lang/Math", name := "max", desc := "(JJ)J" } : Jvm.MethodName) jdk_29_method_66_code (4 : Nat) (Option.some Jvm.ClassFile.FieldType.long)).before a0 Z = true := hw _ (List.mem_of_getElem? (i := 4) rfl)
theorem w5 {Z : State} {a0 : Array Value} (hw : Hw Z a0) : (Jvm.Cond.methodLink "com/example/slim_sieve/slimsieve/PositionsNextPinLaw" (17 : Nat) ({ cls := "com/example/slim_sieve/slimsieve/Positions", name := "next", desc := "(JJJ)J" } : Jvm.MethodName)).before a0 Z = true := hw _ (List.mem_of_getElem? (i := 5) rfl)
theorem w6 {Z : State} {a0 : Array Value} (hw : Hw Z a0) : (Jvm.Cond.static ({ cls := "com/example/slim_sieve/slimsieve/Positions", name := "next", desc := "(JJJ)J" } : Jvm.MethodName)).before a0 Z = true := hw _ (List.mem_of_getElem? (i := 6) rfl)
theorem w7 {Z : State} {a0 : Array Value} (hw : Hw Z a0) : (Jvm.Cond.initialized "com/example/slim_sieve/slimsieve/Positions").before a0 Z = true := hw _ (List.mem_of_getElem? (i := 7) rfl)
theorem w8 {Z : State} {a0 : Array Value} (hw : Hw Z a0) : (Jvm.Cond.code ({ cls := "com/example/slim_sieve/slimsieve/Positions", name := "next", desc := "(JJJ)J" } : Jvm.MethodName) prog_15_method_4_code (8 : Nat) (Option.some Jvm.ClassFile.FieldType.long)).before a0 Z = true := hw _ (List.mem_of_getElem? (i := 8) rfl)
theorem w9 {Z : State} {a0 : Array Value} (hw : Hw Z a0) : (Jvm.Cond.methodLink "com/example/slim_sieve/slimsieve/PositionsNextPinLaw" (23 : Nat) ({ cls := "com/example/slim_sieve/slimsieve/PositionsNextPinLaw", name := "reference", desc := "(JJJ)J" } : Jvm.MethodName)).before a0 Z = true := hw _ (List.mem_of_getElem? (i := 9) rfl)
theorem w10 {Z : State} {a0 : Array Value} (hw : Hw Z a0) : (Jvm.Cond.static ({ cls := "com/example/slim_sieve/slimsieve/PositionsNextPinLaw", name := "reference", desc := "(JJJ)J" } : Jvm.MethodName)).before a0 Z = true := hw _ (List.mem_of_getElem? (i := 10) rfl)
theorem w11 {Z : State} {a0 : Array Value} (hw : Hw Z a0) : (Jvm.Cond.initialized "com/example/slim_sieve/slimsieve/PositionsNextPinLaw").before a0 Z = true := hw _ (List.mem_of_getElem? (i := 11) rfl)
theorem w12 {Z : State} {a0 : Array Value} (hw : Hw Z a0) : (Jvm.Cond.code ({ cls := "com/example/slim_sieve/slimsieve/PositionsNextPinLaw", name := "reference", desc := "(JJJ)J" } : Jvm.MethodName) method_3_code (8 : Nat) (Option.some Jvm.ClassFile.FieldType.long)).before a0 Z = true := hw _ (List.mem_of_getElem? (i := 12) rfl)
theorem d1_0 : decode jdk_29_method_66_code 0 = .ok (.lload_n 0, 1) := by decide +kernel
theorem d1_1 : decode jdk_29_method_66_code 1 = .ok (.lload_n 2, 1) := by decide +kernel
theorem d1_2 : decode jdk_29_method_66_code 2 = .ok (.lcmp, 1) := by decide +kernel
theorem d1_3 : decode jdk_29_method_66_code 3 = .ok (.ifCond .lt 7, 3) := by decide +kernel
theorem d1_6 : decode jdk_29_method_66_code 6 = .ok (.lload_n 0, 1) := by decide +kernel
theorem d1_7 : decode jdk_29_method_66_code 7 = .ok (.goto 4, 3) := by decide +kernel
theorem d1_10 : decode jdk_29_method_66_code 10 = .ok (.lload_n 2, 1) := by decide +kernel
theorem d1_11 : decode jdk_29_method_66_code 11 = .ok (.lreturn, 1) := by decide +kernel
theorem d2_0 : decode prog_15_method_4_code 0 = .ok (.lload_n 0, 1) := by decide +kernel
theorem d2_1 : decode prog_15_method_4_code 1 = .ok (.lload_n 2, 1) := by decide +kernel
theorem d2_2 : decode prog_15_method_4_code 2 = .ok (.ladd, 1) := by decide +kernel
theorem d2_3 : decode prog_15_method_4_code 3 = .ok (.lstore 6, 2) := by decide +kernel
theorem d2_5 : decode prog_15_method_4_code 5 = .ok (.lload 6, 2) := by decide +kernel
theorem d2_7 : decode prog_15_method_4_code 7 = .ok (.lload 4, 2) := by decide +kernel
theorem d2_9 : decode prog_15_method_4_code 9 = .ok (.lload 6, 2) := by decide +kernel
theorem d2_11 : decode prog_15_method_4_code 11 = .ok (.bipush 63, 2) := by decide +kernel
theorem d2_13 : decode prog_15_method_4_code 13 = .ok (.lshr, 1) := by decide +kernel
theorem d2_14 : decode prog_15_method_4_code 14 = .ok (.land, 1) := by decide +kernel
theorem d2_15 : decode prog_15_method_4_code 15 = .ok (.ladd, 1) := by decide +kernel
theorem d2_16 : decode prog_15_method_4_code 16 = .ok (.lreturn, 1) := by decide +kernel
theorem d3_0 : decode method_3_code 0 = .ok (.lload_n 2, 1) := by decide +kernel
theorem d3_1 : decode method_3_code 1 = .ok (.lneg, 1) := by decide +kernel
theorem d3_2 : decode method_3_code 2 = .ok (.lstore 6, 2) := by decide +kernel
theorem d3_4 : decode method_3_code 4 = .ok (.lload_n 0, 1) := by decide +kernel
theorem d3_5 : decode method_3_code 5 = .ok (.lload 6, 2) := by decide +kernel
theorem d3_7 : decode method_3_code 7 = .ok (.lcmp, 1) := by decide +kernel
theorem d3_8 : decode method_3_code 8 = .ok (.ifCond .ge 10, 3) := by decide +kernel
theorem d3_11 : decode method_3_code 11 = .ok (.lload_n 0, 1) := by decide +kernel
theorem d3_12 : decode method_3_code 12 = .ok (.lload_n 2, 1) := by decide +kernel
theorem d3_13 : decode method_3_code 13 = .ok (.lload 4, 2) := by decide +kernel
theorem d3_15 : decode method_3_code 15 = .ok (.ladd, 1) := by decide +kernel
theorem d3_16 : decode method_3_code 16 = .ok (.ladd, 1) := by decide +kernel
theorem d3_17 : decode method_3_code 17 = .ok (.lreturn, 1) := by decide +kernel
theorem d3_18 : decode method_3_code 18 = .ok (.lload_n 0, 1) := by decide +kernel
theorem d3_19 : decode method_3_code 19 = .ok (.lload 6, 2) := by decide +kernel
theorem d3_21 : decode method_3_code 21 = .ok (.lsub, 1) := by decide +kernel
theorem d3_22 : decode method_3_code 22 = .ok (.lreturn, 1) := by decide +kernel
theorem pd0 : parseMethodDescriptor "(JJ)J" = some ⟨[.long, .long], some .long⟩ := by decide +kernel
theorem pd1 : parseMethodDescriptor "(JJJ)J" = some ⟨[.long, .long, .long], some .long⟩ := by decide +kernel
abbrev nm0 : MethodName := x
abbrev rm0 : Room := room_1
abbrev C0 (l : Launch) (Z : State) (a0 : Array Value) (n0 : Nat) := Wp.Con l Z a0 n0 nm0 code maxLocals ret rm0
abbrev W0 (l : Launch) (Z : State) (a0 : Array Value) (n0 : Nat) := Wp.WP l Z a0 n0 rm0 nm0 code maxLocals ret
theorem pn0 : plainFor nm0 = true := by first | exact plainFor_of_name (by first | (simp [plainName, overriddenIn, nm0, x]; done) | decide +kernel) | decide +kernel
theorem ef0 (m : MethodId) (x0 : Int64) (x1 : Int64) (x2 : Int64) : entryFrame m #[(.long x0), (.long x1), (.long x2)] maxLocals = mkF m 0 ⟨[.val (.long x0), .second, .val (.long x1), .second, .val (.long x2), .second, .unset, .unset, .unset, .unset, .unset, .unset, .unset, .unset, .unset, .unset, .unset, .unset]⟩ [] := by first | exact (Wp.efG m [(.long x0), (.long x1), (.long x2)] maxLocals).trans rfl | (simp [entryFrame, mkF, argsToLocals, Value.category, maxLocals]; done)
abbrev nm1 : MethodName := ⟨"java/lang/Math", "max", "(JJ)J"⟩
abbrev rm1 : Room := { frames := 0, cells := 0, slots := 0, locals := 0 }
abbrev C1 (l : Launch) (Z : State) (a0 : Array Value) (n0 : Nat) := Wp.Con l Z a0 n0 nm1 jdk_29_method_66_code 4 (some .long) rm1
abbrev W1 (l : Launch) (Z : State) (a0 : Array Value) (n0 : Nat) := Wp.WP l Z a0 n0 rm1 nm1 jdk_29_method_66_code 4 (some .long)
theorem pn1 : plainFor nm1 = true := by first | exact plainFor_of_name (by first | (simp [plainName, overriddenIn, nm1, x]; done) | decide +kernel) | decide +kernel
theorem ef1 (m : MethodId) (x0 : Int64) (x1 : Int64) : entryFrame m #[(.long x0), (.long x1)] 4 = mkF m 0 ⟨[.val (.long x0), .second, .val (.long x1), .second]⟩ [] := by first | exact (Wp.efG m [(.long x0), (.long x1)] 4).trans rfl | (simp [entryFrame, mkF, argsToLocals, Value.category]; done)
abbrev nm2 : MethodName := ⟨"com/example/slim_sieve/slimsieve/Positions", "next", "(JJJ)J"⟩
abbrev rm2 : Room := { frames := 0, cells := 0, slots := 0, locals := 0 }
abbrev C2 (l : Launch) (Z : State) (a0 : Array Value) (n0 : Nat) := Wp.Con l Z a0 n0 nm2 prog_15_method_4_code 8 (some .long) rm2
abbrev W2 (l : Launch) (Z : State) (a0 : Array Value) (n0 : Nat) := Wp.WP l Z a0 n0 rm2 nm2 prog_15_method_4_code 8 (some .long)
theorem pn2 : plainFor nm2 = true := by first | exact plainFor_of_name (by first | (simp [plainName, overriddenIn, nm2, x]; done) | decide +kernel) | decide +kernel
theorem ef2 (m : MethodId) (x0 : Int64) (x1 : Int64) (x2 : Int64) : entryFrame m #[(.long x0), (.long x1), (.long x2)] 8 = mkF m 0 ⟨[.val (.long x0), .second, .val (.long x1), .second, .val (.long x2), .second, .unset, .unset]⟩ [] := by first | exact (Wp.efG m [(.long x0), (.long x1), (.long x2)] 8).trans rfl | (simp [entryFrame, mkF, argsToLocals, Value.category]; done)
abbrev nm3 : MethodName := ⟨"com/example/slim_sieve/slimsieve/PositionsNextPinLaw", "reference", "(JJJ)J"⟩
abbrev rm3 : Room := { frames := 0, cells := 0, slots := 0, locals := 0 }
abbrev C3 (l : Launch) (Z : State) (a0 : Array Value) (n0 : Nat) := Wp.Con l Z a0 n0 nm3 method_3_code 8 (some .long) rm3
abbrev W3 (l : Launch) (Z : State) (a0 : Array Value) (n0 : Nat) := Wp.WP l Z a0 n0 rm3 nm3 method_3_code 8 (some .long)
theorem pn3 : plainFor nm3 = true := by first | exact plainFor_of_name (by first | (simp [plainName, overriddenIn, nm3, x]; done) | decide +kernel) | decide +kernel
theorem ef3 (m : MethodId) (x0 : Int64) (x1 : Int64) (x2 : Int64) : entryFrame m #[(.long x0), (.long x1), (.long x2)] 8 = mkF m 0 ⟨[.val (.long x0), .second, .val (.long x1), .second, .val (.long x2), .second, .unset, .unset]⟩ [] := by first | exact (Wp.efG m [(.long x0), (.long x1), (.long x2)] 8).trans rfl | (simp [entryFrame, mkF, argsToLocals, Value.category]; done)
set_option maxRecDepth 65536
theorem con1 {l : Launch} {Z : State} {a0 : Array Value} {n0 : Nat} (hw : Hw Z a0) (a b : Int64) (H : Wp.MH) :
    C1 l Z a0 n0 #[.long a, .long b] H (fun v H' => (∃ r : Int64, v = some (.long r) ∧ r.toInt = max a.toInt b.toInt) ∧ H' = H) := by
  refine Wp.Con.intro pn1 (fun m => ef1 m a b) ?_
  refine Wp.lloadN (pc' := 1) d1_0 rfl rfl ?_
  refine Wp.lloadN (pc' := 2) d1_1 rfl rfl ?_
  refine Wp.lcmp_lt (pt := 10) (pf := 6) d1_2 rfl d1_3 (by decide) rfl (fun hc3 => ?_) (fun hc3 => ?_)
  · refine Wp.lloadN (pc' := 11) d1_10 rfl rfl ?_
    refine Wp.lreturn rfl d1_11 ?_
    exact ⟨⟨_, rfl, by omega⟩, rfl⟩
  · refine Wp.lloadN (pc' := 7) d1_6 rfl rfl ?_
    refine Wp.goto (pc' := 11) d1_7 (by decide) ?_
    refine Wp.lreturn rfl d1_11 ?_
    exact ⟨⟨_, rfl, by omega⟩, rfl⟩
theorem own_add (a b : Int64) (h : -9223372036854775808 ≤ a.toInt + b.toInt ∧ a.toInt + b.toInt < 9223372036854775808) : (a + b).toInt = a.toInt + b.toInt := by
  have h1 := c_ladd a b
  have h7 := rng64 (a + b)
  omega
theorem own_sub (a b : Int64) (h : -9223372036854775808 ≤ a.toInt - b.toInt ∧ a.toInt - b.toInt < 9223372036854775808) : (a - b).toInt = a.toInt - b.toInt := by
  have h1 := c_lsub a b
  have h7 := rng64 (a - b)
  omega
theorem own_neg (a : Int64) (h : -9223372036854775808 < a.toInt) : (-a).toInt = -a.toInt := by
  have h1 := c_lneg a
  have h7 := rng64 (-a)
  have h8 := rng64 a
  omega
theorem own_next (c s m : Int64) (h : 0 ≤ c.toInt ∧ c.toInt < m.toInt ∧ -m.toInt ≤ s.toInt ∧ s.toInt < 0) :
    (c + s + (m &&& ((c + s) >>> ((63 : Int32) &&& 0x3f).toInt64))).toInt = if c.toInt + s.toInt < 0 then c.toInt + s.toInt + m.toInt else c.toInt + s.toInt := by
  have hm := rng64 m
  have e := own_add c s (by omega)
  have e2 := c_lshr (c + s) 63 63 (by decide)
  split
  · have : ((c + s) >>> ((63 : Int32) &&& 0x3f).toInt64) = -1 := Int64.toInt_inj.mp (by rw [e2, e]; show _ = (-1 : Int); omega)
    rw [this, Int64.and_neg_one, own_add _ _ (by omega), e]
  · have : ((c + s) >>> ((63 : Int32) &&& 0x3f).toInt64) = 0 := Int64.toInt_inj.mp (by rw [e2, e]; show _ = (0 : Int); omega)
    rw [this, Int64.and_zero, Int64.add_zero, e]
theorem con2 {l : Launch} {Z : State} {a0 : Array Value} {n0 : Nat} (hw : Hw Z a0) (c s m : Int64) (h : 0 ≤ c.toInt ∧ c.toInt < m.toInt ∧ -m.toInt ≤ s.toInt ∧ s.toInt < 0) (H : Wp.MH) :
    C2 l Z a0 n0 #[.long c, .long s, .long m] H (fun v H' => (∃ r : Int64, v = some (.long r) ∧ r.toInt = if c.toInt + s.toInt < 0 then c.toInt + s.toInt + m.toInt else c.toInt + s.toInt) ∧ H' = H) := by
  refine Wp.Con.intro pn2 (fun mm => ef2 mm c s m) ?_
  refine Wp.lloadN (pc' := 1) d2_0 rfl rfl ?_
  refine Wp.lloadN (pc' := 2) d2_1 rfl rfl ?_
  refine Wp.ladd (pc' := 3) d2_2 rfl ?_
  refine Wp.lstore_6 (pc' := 5) d2_3 rfl rfl ?_
  refine Wp.lload (pc' := 7) d2_5 rfl rfl ?_
  refine Wp.lload (pc' := 9) d2_7 rfl rfl ?_
  refine Wp.lload (pc' := 11) d2_9 rfl rfl ?_
  refine Wp.bipush (63) (pc' := 13) d2_11 rfl rfl ?_
  refine Wp.lshr (pc' := 14) d2_13 rfl ?_
  refine Wp.land (pc' := 15) d2_14 rfl ?_
  refine Wp.ladd (pc' := 16) d2_15 rfl ?_
  refine Wp.lreturn rfl d2_16 ?_
  exact ⟨⟨_, rfl, own_next c s m h⟩, rfl⟩
theorem con3 {l : Launch} {Z : State} {a0 : Array Value} {n0 : Nat} (hw : Hw Z a0) (c s m : Int64) (h : 0 ≤ c.toInt ∧ c.toInt < m.toInt ∧ -m.toInt ≤ s.toInt ∧ s.toInt < 0) (H : Wp.MH) :
    C3 l Z a0 n0 #[.long c, .long s, .long m] H (fun v H' => (∃ r : Int64, v = some (.long r) ∧ r.toInt = if c.toInt + s.toInt < 0 then c.toInt + s.toInt + m.toInt else c.toInt + s.toInt) ∧ H' = H) := by
  refine Wp.Con.intro pn3 (fun mm => ef3 mm c s m) ?_
  have hm := rng64 m
  have e1 := own_neg s (by omega)
  refine Wp.lloadN (pc' := 1) d3_0 rfl rfl ?_
  refine Wp.lneg (pc' := 2) d3_1 rfl ?_
  refine Wp.lstore_6 (pc' := 4) d3_2 rfl rfl ?_
  refine Wp.lloadN (pc' := 5) d3_4 rfl rfl ?_
  refine Wp.lload (pc' := 7) d3_5 rfl rfl ?_
  refine Wp.lcmp_ge (pt := 18) (pf := 11) d3_7 rfl d3_8 (by decide) rfl (fun hc8 => ?_) (fun hc8 => ?_)
  · refine Wp.lloadN (pc' := 19) d3_18 rfl rfl ?_
    refine Wp.lload (pc' := 21) d3_19 rfl rfl ?_
    refine Wp.lsub (pc' := 22) d3_21 rfl ?_
    refine Wp.lreturn rfl d3_22 ?_
    refine ⟨⟨_, rfl, ?_⟩, rfl⟩
    rw [if_neg (by omega), own_sub c (-s) (by omega), e1]; omega
  · refine Wp.lloadN (pc' := 12) d3_11 rfl rfl ?_
    refine Wp.lloadN (pc' := 13) d3_12 rfl rfl ?_
    refine Wp.lload (pc' := 15) d3_13 rfl rfl ?_
    refine Wp.ladd (pc' := 16) d3_15 rfl ?_
    refine Wp.ladd (pc' := 17) d3_16 rfl ?_
    refine Wp.lreturn rfl d3_17 ?_
    refine ⟨⟨_, rfl, ?_⟩, rfl⟩
    rw [if_pos (by omega), own_add c (s + m) (by rw [own_add s m (by omega)]; omega), own_add s m (by omega)]; omega
theorem own_pre (x y m : Int64) (hm : 1 ≤ m.toInt) (hx : 0 ≤ x.toInt) (hy : 0 ≤ y.toInt) :
    (0 ≤ (x - (x / m) * m).toInt ∧ (x - (x / m) * m).toInt < m.toInt ∧ -m.toInt ≤ ((y - (y / m) * m) - m).toInt ∧ ((y - (y / m) * m) - m).toInt < 0) ∧ True := by
  have h1 := (c_lrem x m m.toInt rfl).1 hx
  have h2 := (c_lrem y m m.toInt rfl).1 hy
  have a1 := Int.emod_nonneg x.toInt (show m.toInt ≠ 0 by omega)
  have a2 := Int.emod_lt_of_pos x.toInt (show 0 < m.toInt by omega)
  have b1 := Int.emod_nonneg y.toInt (show m.toInt ≠ 0 by omega)
  have b2 := Int.emod_lt_of_pos y.toInt (show 0 < m.toInt by omega)
  have hr := rng64 m
  have h3 := own_sub (y - (y / m) * m) m (by omega)
  refine ⟨⟨by omega, by omega, by omega, by omega⟩, trivial⟩
theorem law_con (l : Launch) (Z : State) (a0 : Array Value) (n0 : Nat) (hw : Hw Z a0) (c x y : Int64) :
    C0 l Z a0 n0 #[.long c, .long x, .long y] [] (fun v _ => v = some (.int 1)) := by
  refine Wp.Con.intro pn0 (fun m => ef0 m c x y) ?_
  have hx : (x &&& 9223372036854775807).toInt = x.toInt % (2 ^ 63 : Nat) := c_maskL x _ 63 (by decide) (by decide)
  have hy : (y &&& 9223372036854775807).toInt = y.toInt % (2 ^ 63 : Nat) := c_maskL y _ 63 (by decide) (by decide)
  refine Wp.lconst (1) (pc' := 1) at_0 rfl rfl ?_
  refine Wp.lloadN (pc' := 2) at_1 rfl rfl ?_
  refine Wp.ldcL (pc' := 5) (w0 hw) at_2 rfl ?_
  refine Wp.land (pc' := 6) at_5 rfl ?_
  refine Wp.callS_2 0 (pc' := 9) (rm := rm1) (w1 hw) (w2 hw) (w3 hw) (w4 hw) (by decide) pd0 rfl at_6 rfl rfl (by decide) (by decide) (by decide) (by decide) rfl rfl rfl ?_
  refine (con1 hw _ _ _).mono ?_
  rintro _ _ ⟨⟨m, rfl, hm⟩, rfl⟩
  have hm1 : 1 ≤ m.toInt := by rw [hm]; exact Int.le_max_left _ _
  have hm0 : m ≠ 0 := fun e => by rw [e] at hm1; exact absurd hm1 (by decide)
  obtain ⟨hp, hst⟩ := own_pre (x &&& 9223372036854775807) (y &&& 9223372036854775807) m hm1 (by omega) (by omega)
  refine Wp.afterS ?_
  refine Wp.lstore_6 (pc' := 11) at_9 rfl rfl ?_
  refine Wp.lloadN (pc' := 12) at_11 rfl rfl ?_
  refine Wp.ldcL (pc' := 15) (w0 hw) at_12 rfl ?_
  refine Wp.land (pc' := 16) at_15 rfl ?_
  refine Wp.lload (pc' := 18) at_16 rfl rfl ?_
  refine Wp.lrem (pc' := 19) at_18 hm0 rfl ?_
  refine Wp.lstore_8 (pc' := 21) at_19 rfl rfl ?_
  refine Wp.lload (pc' := 23) at_21 rfl rfl ?_
  refine Wp.ldcL (pc' := 26) (w0 hw) at_23 rfl ?_
  refine Wp.land (pc' := 27) at_26 rfl ?_
  refine Wp.lload (pc' := 29) at_27 rfl rfl ?_
  refine Wp.lrem (pc' := 30) at_29 hm0 rfl ?_
  refine Wp.lstore_10 (pc' := 32) at_30 rfl rfl ?_
  refine Wp.lload (pc' := 34) at_32 rfl rfl ?_
  refine Wp.lload (pc' := 36) at_34 rfl rfl ?_
  refine Wp.lsub (pc' := 37) at_36 rfl ?_
  refine Wp.lstore_12 (pc' := 39) at_37 rfl rfl ?_
  refine Wp.lload (pc' := 41) at_39 rfl rfl ?_
  refine Wp.lload (pc' := 43) at_41 rfl rfl ?_
  refine Wp.lload (pc' := 45) at_43 rfl rfl ?_
  refine Wp.callS_3 0 (pc' := 48) (rm := rm2) (w5 hw) (w6 hw) (w7 hw) (w8 hw) (by decide) pd1 rfl at_45 rfl rfl (by decide) (by decide) (by decide) (by decide) rfl rfl rfl ?_
  refine (con2 hw _ _ _ hp _).mono ?_
  rintro _ _ ⟨⟨r, rfl, hr⟩, rfl⟩
  refine Wp.afterS ?_
  refine Wp.lstore_14 (pc' := 50) at_48 rfl rfl ?_
  refine Wp.lload (pc' := 52) at_50 rfl rfl ?_
  refine Wp.lload (pc' := 54) at_52 rfl rfl ?_
  refine Wp.lload (pc' := 56) at_54 rfl rfl ?_
  refine Wp.callS_3 0 (pc' := 59) (rm := rm3) (w9 hw) (w10 hw) (w11 hw) (w12 hw) (by decide) pd1 rfl at_56 rfl rfl (by decide) (by decide) (by decide) (by decide) rfl rfl rfl ?_
  refine (con3 hw _ _ _ hp _).mono ?_
  rintro _ _ ⟨⟨r', rfl, hr'⟩, rfl⟩
  refine Wp.afterS ?_
  refine Wp.lstore_16 (pc' := 61) at_59 rfl rfl ?_
  refine Wp.lload (pc' := 63) at_61 rfl rfl ?_
  refine Wp.lload (pc' := 65) at_63 rfl rfl ?_
  refine Wp.lcmp_ne (pt := 88) (pf := 69) at_65 rfl at_66 (by decide) rfl (fun hc66 => ?_) (fun hc66 => ?_)
  · exact absurd (Int64.toInt_inj.mp (hr.trans hr'.symm)) hc66
  · refine Wp.lload (pc' := 71) at_69 rfl rfl ?_
    refine Wp.lconst (0) (pc' := 72) at_71 rfl rfl ?_
    refine Wp.lcmp_lt (pt := 88) (pf := 76) at_72 rfl at_73 (by decide) rfl (fun hc73 => ?_) (fun hc73 => ?_)
    · exfalso; simp only [Int64.reduceToInt] at hc73; rw [hr] at hc73; split at hc73 <;> omega
    · refine Wp.lload (pc' := 78) at_76 rfl rfl ?_
      refine Wp.lload (pc' := 80) at_78 rfl rfl ?_
      refine Wp.lcmp_ge (pt := 88) (pf := 84) at_80 rfl at_81 (by decide) rfl (fun hc81 => ?_) (fun hc81 => ?_)
      · exfalso; rw [hr] at hc81; split at hc81 <;> omega
      · refine Wp.iconst (1) (pc' := 85) at_84 rfl rfl ?_
        refine Wp.goto (pc' := 89) at_85 (by decide) ?_
        refine Wp.zreturn rfl at_89 ?_
        rfl
set_option maxRecDepth 65536 in
theorem comes_1 {Post : Tables → Env → Array Value → State → Outcome → State → Prop} (hpost : ∀ tb e args s v u, (limb_1_1.after args s (.returned v) u = true ∧ limb_1_2.after args s (.returned v) u = true ∧ True) → FrameEnd s (.returned v) u (Jvm.fieldLocs frame_1_writes args s ++ Jvm.arrayLocs frame_1_arrays args s ++ Jvm.staticLocs frame_1_statics s) room_1.cells room_1.slots → Post tb e args s (.returned v) u) :
    ArmFor flags0 classFile x code maxLocals ret World_1 tables_1 room_1 Calls_1 rest_1 Pre_1 Post := by
  intro l hfl _ _ p e ha hc hk s m args below hf hA hF happ hP
  obtain ⟨hcalls, hrest, hpre⟩ := hP
  obtain ⟨-, -, -, hnamed, -, -, -, hat⟩ := (Spec.applies_iff hf).mp happ
  obtain ⟨hg, hn⟩ := and_e (Cond.before_iff.mp (show (Jvm.Cond.and given_1 narrow_1).before args s = true from hpre))
  obtain ⟨hcnt, g0⟩ := and_e hg
  obtain ⟨y0, y1, y2, rfl⟩ : ∃ y0 y1 y2 : Value, args = #[y0, y1, y2] := by
    have hs : args.size = 3 := by simpa [Cond.value, given_1] using hcnt
    obtain ⟨L⟩ := args
    match L, hs with
    | [y0, y1, y2], _ => exact ⟨y0, y1, y2, rfl⟩
  have hw := fun d (hd : d ∈ tables_1) => atoms_spec (ws := Jvm.Cond.code x code maxLocals ret :: tables_1) hat d (List.mem_cons_of_mem _ hd)
  obtain ⟨g0a, g1⟩ := and_e g0
  obtain ⟨i0, e0⟩ := isL_v g0a
  obtain rfl : y0 = .long i0 := Option.some.inj e0
  obtain ⟨g1a, g2⟩ := and_e g1
  obtain ⟨i1, e1⟩ := isL_v g1a
  obtain rfl : y1 = .long i1 := Option.some.inj e1
  obtain ⟨i2, e2⟩ := isL_v g2
  obtain rfl : y2 = .long i2 := Option.some.inj e2
  obtain ⟨n, o, h1, h2, h3, v, L, rfl, ⟨N, H', hR', rfl⟩, hq⟩ := law_con l s _ s.heap.size hw i0 i1 i2 tables_1 s.heap ⟨Nat.le_refl _, List.nodup_nil, fun _ q => nomatch q⟩ p e ha hc hk s m _ below hf ((Spec.applies_iff_loose hf).mp happ).1 ⟨rfl, State.Warmed39.refl s, rfl⟩ trivial
  refine ⟨n, _, h1, h2, h3, hpost _ _ _ _ _ _ ⟨Cond.after_iff.mpr rfl, Cond.after_iff.mpr (eq_i res_at (Term.int_eval (1)) rfl), trivial⟩ ⟨hq.1, hq.2.1, (hq.2.2.sift fun y hy => Or.inr (N y hy)).mono (by decide) (by decide)⟩⟩
theorem main_1_1 : Claimed_1_1 := comes_1 fun _ _ _ _ _ _ h hF => ⟨h.1, hF⟩
theorem main_1_2 : Claimed_1_2 := comes_1 fun _ _ _ _ _ _ h hF => ⟨h.2.1, hF⟩
end Jvm.Pilot.@@N@@
namespace Jvm.Pilot.@@N@@
open Jvm Jvm.ClassFile Sem Op Lib Jvm.Free Jvm.Stand Jvm.Pilot.@@N@@.Jvm.D
/-! MADE BY PROGRAM (witnessworld.py) out of the Statement's table words and the real class files: 10 classes; the members and pool entries that the words name. The judged class is class 1, her method 1. -/
namespace start1
open Jvm.ClassFile
def u (s : String) : CpInfo := .utf8 (stringToUtf16 s)
/-- a pool by its gaps: so many unusable entries, then the entry; so many at the end -/
def gap : Nat → List CpInfo → List CpInfo
  | 0, r => r
  | n + 1, r => .unusable :: gap n r
def poolList (es : List (Nat × CpInfo)) (last : Nat) : List CpInfo := es.foldr (fun e r => gap e.1 (e.2 :: r)) (gap last [])
def pool (es : List (Nat × CpInfo)) (last : Nat) : Array CpInfo := ⟨poolList es last⟩
def fileOf (pool : Array CpInfo) (this : Nat) (attrs : Array Attribute := #[]) (ms : Array MethodInfo := #[]) (fl : Nat := 33) (sup : Nat := 0) (ifs : Array Nat := #[]) (fds : Array FieldInfo := #[]) : ClassFile where
  minorVersion := 0
  majorVersion := 65
  constantPool := pool
  accessFlags := fl
  thisClass := this
  superClass := sup
  interfaces := ifs
  fields := fds
  methods := ms
  attributes := attrs
def plain (name : String) (sup : Option ClassId) : Class where
  name := name
  kind := .ordinary
  loader := none
  accessFlags := 33
  super := sup
  interfaces := #[]
  cf := none
  fields := #[]
  methods := #[]
  instanceTypes := #[]
  staticTypes := #[]
  resolved := #[]
  callSites := []
  init := .initialized
  statics := none
  mirror := none

def pool0 : Array CpInfo := pool [(5, u "<init>"), (0, u "()V"), (1, .class_ 10), (1, u "java/lang/Object")] 113

def k0m0 : Method := { name := "<init>", desc := "()V", sig := { parameters := [], returnType := none }, accessFlags := 1, code := none }
/-- java/lang/Object -/
def k0 : Class := { plain "java/lang/Object" none with
  accessFlags := 33
  interfaces := #[]
  cf := some (fileOf pool0 8 #[] #[{ accessFlags := 1, nameIndex := 5, descriptorIndex := 6, attributes := #[] }] 33 0 #[] #[])
  fields := #[]
  methods := #[k0m0]
  instanceTypes := #[]
  staticTypes := #[]
  resolved := Array.replicate 124 none
  statics := none }

def pool1 : Array CpInfo := pool [(2, .class_ 4), (1, u "java/lang/Object"), (0, u "<init>"), (0, u "()V"), (2, .long 9223372036854775807), (1, .methodref 12 13), (0, .class_ 14), (0, .nameAndType 15 16), (0, u "java/lang/Math"), (0, u "max"), (0, u "(JJ)J"), (0, .methodref 18 19), (0, .class_ 20), (0, .nameAndType 21 22), (0, u "com/example/slim_sieve/slimsieve/Positions"), (0, u "next"), (0, u "(JJJ)J"), (0, .methodref 24 25), (0, .class_ 26), (0, .nameAndType 27 22), (0, u "com/example/slim_sieve/slimsieve/PositionsNextPinLaw"), (0, u "reference"), (2, u "law"), (0, u "(JJJ)Z")] 3

def k1m0 : Method := { name := "<init>", desc := "()V", sig := { parameters := [], returnType := none }, accessFlags := 2, code := none }
def k1c1 : Code := { maxStack := 6, maxLocals := 18, code := code, exceptionTable := #[], attributes := #[] }
def k1m1 : Method := { name := "law", desc := "(JJJ)Z", sig := { parameters := [.long, .long, .long], returnType := some .boolean }, accessFlags := 9, code := some k1c1 }
def k1c2 : Code := { maxStack := 6, maxLocals := 8, code := method_3_code, exceptionTable := #[], attributes := #[] }
def k1m2 : Method := { name := "reference", desc := "(JJJ)J", sig := { parameters := [.long, .long, .long], returnType := some .long }, accessFlags := 10, code := some k1c2 }
/-- com/example/slim_sieve/slimsieve/PositionsNextPinLaw -/
def k1 : Class := { plain "com/example/slim_sieve/slimsieve/PositionsNextPinLaw" (some 0) with
  accessFlags := 49
  interfaces := #[]
  cf := some (fileOf pool1 24 #[] #[{ accessFlags := 2, nameIndex := 5, descriptorIndex := 6, attributes := #[] }, { accessFlags := 9, nameIndex := 30, descriptorIndex := 31, attributes := #[] }, { accessFlags := 10, nameIndex := 27, descriptorIndex := 22, attributes := #[] }] 49 2 #[] #[])
  fields := #[]
  methods := #[k1m0, k1m1, k1m2]
  instanceTypes := #[]
  staticTypes := #[]
  resolved := Array.replicate 35 none
  statics := none }

def pool2 : Array CpInfo := pool [(1, .class_ 2), (0, u "java/lang/Math"), (1, .class_ 6), (1, u "java/lang/Object"), (0, u "<init>"), (0, u "()V"), (89, .class_ 100), (1, u "java/lang/Math$RandomNumberGeneratorHolder"), (20, u "(JJ)J"), (50, u "negativeZeroFloatBits"), (0, u "J"), (2, u "negativeZeroDoubleBits"), (21, u "max"), (46, u "$assertionsDisabled"), (0, u "Z"), (91, u "twoToTheDoubleScaleDown"), (0, u "D"), (4, u "twoToTheDoubleScaleUp"), (9, u "E"), (3, u "PI"), (2, u "TAU"), (2, u "DEGREES_TO_RADIANS"), (0, u "RADIANS_TO_DEGREES")] 94

def k2m0 : Method := { name := "<init>", desc := "()V", sig := { parameters := [], returnType := none }, accessFlags := 2, code := none }
def k2c1 : Code := { maxStack := 4, maxLocals := 4, code := jdk_29_method_66_code, exceptionTable := #[], attributes := #[] }
def k2m1 : Method := { name := "max", desc := "(JJ)J", sig := { parameters := [.long, .long], returnType := some .long }, accessFlags := 9, code := some k2c1 }
/-- java/lang/Math -/
def k2 : Class := { plain "java/lang/Math" (some 0) with
  accessFlags := 49
  interfaces := #[]
  cf := some (fileOf pool2 1 #[.nestMembers #[98]] #[{ accessFlags := 2, nameIndex := 7, descriptorIndex := 8, attributes := #[] }, { accessFlags := 9, nameIndex := 198, descriptorIndex := 121, attributes := #[] }] 49 4 #[] #[{ accessFlags := 25, nameIndex := 354, descriptorIndex := 339, attributes := #[] }, { accessFlags := 25, nameIndex := 358, descriptorIndex := 339, attributes := #[] }, { accessFlags := 25, nameIndex := 361, descriptorIndex := 339, attributes := #[] }, { accessFlags := 26, nameIndex := 364, descriptorIndex := 339, attributes := #[] }, { accessFlags := 26, nameIndex := 365, descriptorIndex := 339, attributes := #[] }, { accessFlags := 26, nameIndex := 172, descriptorIndex := 173, attributes := #[] }, { accessFlags := 26, nameIndex := 176, descriptorIndex := 173, attributes := #[] }, { accessFlags := 8, nameIndex := 344, descriptorIndex := 339, attributes := #[] }, { accessFlags := 8, nameIndex := 338, descriptorIndex := 339, attributes := #[] }, { accessFlags := 4120, nameIndex := 245, descriptorIndex := 246, attributes := #[] }])
  fields := #[{ name := "E", type := .double, accessFlags := 25, slot := 0, constantValue := 0 }, { name := "PI", type := .double, accessFlags := 25, slot := 1, constantValue := 0 }, { name := "TAU", type := .double, accessFlags := 25, slot := 2, constantValue := 0 }, { name := "DEGREES_TO_RADIANS", type := .double, accessFlags := 26, slot := 3, constantValue := 0 }, { name := "RADIANS_TO_DEGREES", type := .double, accessFlags := 26, slot := 4, constantValue := 0 }, { name := "negativeZeroFloatBits", type := .long, accessFlags := 26, slot := 5, constantValue := 0 }, { name := "negativeZeroDoubleBits", type := .long, accessFlags := 26, slot := 6, constantValue := 0 }, { name := "twoToTheDoubleScaleUp", type := .double, accessFlags := 8, slot := 7, constantValue := 0 }, { name := "twoToTheDoubleScaleDown", type := .double, accessFlags := 8, slot := 8, constantValue := 0 }, { name := "$assertionsDisabled", type := .boolean, accessFlags := 4120, slot := 9, constantValue := 0 }]
  methods := #[k2m0, k2m1]
  instanceTypes := #[]
  staticTypes := #[.double, .double, .double, .double, .double, .long, .long, .double, .double, .boolean]
  resolved := Array.replicate 460 none
  statics := none }

def pool3 : Array CpInfo := pool [(2, .class_ 4), (1, u "java/lang/Object"), (0, u "<init>"), (0, u "()V"), (11, .class_ 20), (1, u "com/example/slim_sieve/slimsieve/Positions"), (19, u "next"), (0, u "(JJJ)J")] 5

def k3m0 : Method := { name := "<init>", desc := "()V", sig := { parameters := [], returnType := none }, accessFlags := 2, code := none }
def k3c1 : Code := { maxStack := 7, maxLocals := 8, code := prog_15_method_4_code, exceptionTable := #[], attributes := #[] }
def k3m1 : Method := { name := "next", desc := "(JJJ)J", sig := { parameters := [.long, .long, .long], returnType := some .long }, accessFlags := 8, code := some k3c1 }
/-- com/example/slim_sieve/slimsieve/Positions -/
def k3 : Class := { plain "com/example/slim_sieve/slimsieve/Positions" (some 0) with
  accessFlags := 32
  interfaces := #[]
  cf := some (fileOf pool3 18 #[] #[{ accessFlags := 2, nameIndex := 5, descriptorIndex := 6, attributes := #[] }, { accessFlags := 8, nameIndex := 40, descriptorIndex := 41, attributes := #[] }] 32 2 #[] #[])
  fields := #[]
  methods := #[k3m0, k3m1]
  instanceTypes := #[]
  staticTypes := #[]
  resolved := Array.replicate 47 none
  statics := none }

def pool4 : Array CpInfo := pool [(1, u "java/lang/Cloneable"), (0, .class_ 1), (0, u "java/lang/Object"), (0, .class_ 3)] 3

/-- java/lang/Cloneable -/
def k4 : Class := { plain "java/lang/Cloneable" (some 0) with
  accessFlags := 1537
  interfaces := #[]
  cf := some (fileOf pool4 2 #[] #[] 1537 4 #[] #[])
  fields := #[]
  methods := #[]
  instanceTypes := #[]
  staticTypes := #[]
  resolved := Array.replicate 8 none
  statics := none }

def pool5 : Array CpInfo := pool [(1, u "java/io/Serializable"), (0, .class_ 1), (0, u "java/lang/Object"), (0, .class_ 3)] 3

/-- java/io/Serializable -/
def k5 : Class := { plain "java/io/Serializable" (some 0) with
  accessFlags := 1537
  interfaces := #[]
  cf := some (fileOf pool5 2 #[] #[] 1537 4 #[] #[])
  fields := #[]
  methods := #[]
  instanceTypes := #[]
  staticTypes := #[]
  resolved := Array.replicate 8 none
  statics := none }

/-- the primitive byte -/
def k6 : Class := { plain "byte" none with kind := .primitive 'B', accessFlags := 0x411 }
/-- [B -/
def k7 : Class := { plain "[B" (some 0) with kind := .array 6 .byte, interfaces := #[4, 5], accessFlags := 1041 }

/-- the primitive int -/
def k8 : Class := { plain "int" none with kind := .primitive 'I', accessFlags := 0x411 }
/-- [I -/
def k9 : Class := { plain "[I" (some 0) with kind := .array 8 .int, interfaces := #[4, 5], accessFlags := 1041 }

def heap : Heap := #[]
def classes : Array Class := #[k0, k1, k2, k3, k4, k5, k6, k7, k8, k9]
def interned : List (Array UInt16 × Addr) := []
def slotsUsed : Nat := 0
def theMethod : MethodId := ⟨1, 1⟩
def args0 : Array Value := #[.long 5, .long 5, .long 5]
def aboutOver (below : List Frame) : State where
  vm := { classes := classes, interned := interned.toArray }
  heap := heap
  slotsUsed := slotsUsed
  threads := #[{ frames := .invoking theMethod args0 :: below }]
def below0 : List Frame := [.native { method := ⟨0, 0⟩, args := #[] }]
def about1 : State := aboutOver below0
def p0 : Program := .bare "" "" ""
def e0 : Env := launch0.env 0 0 0
theorem w_frames : about1.frames = Frame.invoking theMethod args0 :: below0 := rfl
set_option maxRecDepth 65536 in
theorem w_args : argsFit about1.vm theMethod args0 = true := by decide +kernel
set_option maxRecDepth 65536 in
theorem w_heap : heapFits about1 = true := by decide +kernel
set_option maxRecDepth 65536 in
theorem w_runnable : about1.curStatus? = some .runnable := by decide +kernel
set_option maxRecDepth 65536 in
theorem w_alone : about1.alone = true := by decide +kernel
set_option maxRecDepth 65536 in
theorem w_named : about1.methodNamed? x = some theMethod := by decide +kernel
set_option maxRecDepth 65536 in
theorem w_hears : about1.hears theMethod below0 = true := by decide +kernel
set_option maxRecDepth 65536 in
theorem w_ripe : about1.ripe theMethod args0 below0 = true := by decide +kernel
theorem w_running : about1.status = .running := rfl
set_option maxRecDepth 65536 in
theorem w_room : about1.hasRoom e0.platform room_1 = true :=
  launch0.hasRoom_least _ room_1 (by decide +kernel) (by decide +kernel) (by decide +kernel) (by decide +kernel) (by decide +kernel) (by decide +kernel)
theorem allAtoms_all (ts : List Jvm.Cond) (a : Array Jvm.Value) (st : Jvm.State) : (allAtoms ts).before a st = ts.all (fun c => c.before a st) := by
  induction ts with
  | nil => rfl
  | cons c t ih =>
    show (Jvm.Cond.and c (allAtoms t)).before a st = _
    rw [Jvm.Cond.before_and, ih, List.all_cons]
def words1 : List Jvm.Cond := Jvm.Cond.code x code maxLocals ret :: tables_1
/-- a 'code' word, met by the world's own term for the bytes: nothing is compared byte by byte -/
theorem code_word {y : MethodName} {bytes : ByteArray} {mx : Nat} {rt : Option FieldType} {a : Array Value} {s : State} {m : MethodId} {meth : Method} {c : Code} (h1 : s.methodNamed? y = some m) (h2 : s.vm.method? m = some meth) (h3 : meth.code = some c) (h4 : c.code = bytes)
    (h5 : (c.maxLocals == mx && c.exceptionTable.isEmpty && decide (c.maxStack ≤ mostOperands) && decide (meth.sig.returnType = rt) && !meth.locks && decide (parseMethodDescriptor y.desc = some meth.sig)) = true) : (Jvm.Cond.code y bytes mx rt).before a s = true := by
  simp only [Bool.and_eq_true, beq_iff_eq, Bool.not_eq_true', decide_eq_true_eq] at h5
  obtain ⟨⟨⟨⟨⟨g1, g2⟩, g3⟩, g4⟩, g5⟩, g6⟩ := h5
  simp [Cond.before, Cond.holds, Cond.value, h1, h2, h3, h4, g1, g2, g3, g4, g5, g6]
def isCode : Jvm.Cond → Bool
  | .code _ _ _ _ => true
  | _ => false
theorem all_split {L : List Jvm.Cond} {P : Jvm.Cond → Bool} (h1 : L.all (fun c => isCode c || P c) = true) (h2 : ∀ c ∈ L.filter isCode, P c = true) : L.all P = true := by
  refine List.all_eq_true.mpr fun c hc => ?_
  have h := List.all_eq_true.mp h1 c hc
  rcases Bool.eq_false_or_eq_true (isCode c) with hi | hi
  · exact h2 c (List.mem_filter.mpr ⟨hc, hi⟩)
  · simpa [hi] using h
set_option maxRecDepth 65536 in
theorem w_c0 : (Jvm.Cond.code x code maxLocals ret).before args0 about1 = true := code_word (m := ⟨1, 1⟩) (meth := k1m1) (c := k1c1) (by decide +kernel) rfl rfl rfl (by decide +kernel)
set_option maxRecDepth 65536 in
theorem w_c1 : (Jvm.Cond.code ({ cls := "java/lang/Math", name := "max", desc := "(JJ)J" } : Jvm.MethodName) jdk_29_method_66_code (4 : Nat) (Option.some Jvm.ClassFile.FieldType.long)).before args0 about1 = true := code_word (m := ⟨2, 1⟩) (meth := k2m1) (c := k2c1) (by decide +kernel) rfl rfl rfl (by decide +kernel)
set_option maxRecDepth 65536 in
theorem w_c2 : (Jvm.Cond.code ({ cls := "com/example/slim_sieve/slimsieve/Positions", name := "next", desc := "(JJJ)J" } : Jvm.MethodName) prog_15_method_4_code (8 : Nat) (Option.some Jvm.ClassFile.FieldType.long)).before args0 about1 = true := code_word (m := ⟨3, 1⟩) (meth := k3m1) (c := k3c1) (by decide +kernel) rfl rfl rfl (by decide +kernel)
set_option maxRecDepth 65536 in
theorem w_c3 : (Jvm.Cond.code ({ cls := "com/example/slim_sieve/slimsieve/PositionsNextPinLaw", name := "reference", desc := "(JJJ)J" } : Jvm.MethodName) method_3_code (8 : Nat) (Option.some Jvm.ClassFile.FieldType.long)).before args0 about1 = true := code_word (m := ⟨1, 2⟩) (meth := k1m2) (c := k1c2) (by decide +kernel) rfl rfl rfl (by decide +kernel)
def codes1 : List Jvm.Cond := [Jvm.Cond.code x code maxLocals ret, Jvm.Cond.code ({ cls := "java/lang/Math", name := "max", desc := "(JJ)J" } : Jvm.MethodName) jdk_29_method_66_code (4 : Nat) (Option.some Jvm.ClassFile.FieldType.long), Jvm.Cond.code ({ cls := "com/example/slim_sieve/slimsieve/Positions", name := "next", desc := "(JJJ)J" } : Jvm.MethodName) prog_15_method_4_code (8 : Nat) (Option.some Jvm.ClassFile.FieldType.long), Jvm.Cond.code ({ cls := "com/example/slim_sieve/slimsieve/PositionsNextPinLaw", name := "reference", desc := "(JJJ)J" } : Jvm.MethodName) method_3_code (8 : Nat) (Option.some Jvm.ClassFile.FieldType.long)]
set_option maxRecDepth 65536 in
theorem codes_eq : words1.filter isCode = codes1 := rfl
theorem w_codes : ∀ c ∈ words1.filter isCode, c.before args0 about1 = true := by
  rw [codes_eq]
  intro c hc
  simp only [codes1, List.mem_cons, List.not_mem_nil, or_false] at hc
  rcases hc with rfl | rfl | rfl | rfl
  · exact w_c0
  · exact w_c1
  · exact w_c2
  · exact w_c3
set_option maxRecDepth 65536 in
theorem w_t1 : words1.all (fun c => isCode c || c.before args0 about1) = true := by decide +kernel
theorem w_tables : (allAtoms (Jvm.Cond.code x code maxLocals ret :: tables_1)).before args0 about1 = true := by
  rw [allAtoms_all]
  show words1.all (fun c => c.before args0 about1) = true
  refine all_split ?_ w_codes
  rw [w_t1]
set_option maxRecDepth 65536 in
theorem w_case : (Jvm.Cond.and given_1 narrow_1).before args0 about1 = true := by decide +kernel
theorem w_applies : (headSpec (Jvm.Cond.code x code maxLocals ret :: tables_1) room_1).applies x e0.platform about1 = true :=
  (Spec.applies_iff w_frames).mpr ⟨w_running, w_runnable, w_alone, w_named, w_hears, w_ripe, w_room, w_tables⟩
theorem atStart : AtStart classFile x code maxLocals ret World_1 tables_1 room_1 Calls_1 rest_1 Pre_1 launch0 p0 e0 about1 theMethod args0 below0 :=
  ⟨lists_1, trivial, launch0.admits_env _ _ _, launch0.least_env, fairChoices_fair.cas, fairChoices_fair.clock, w_frames, w_args, w_heap, w_applies, trivial, trivial, w_case⟩
end start1
theorem witness_1 : WitnessClaimed_1 := ⟨start1.p0, start1.e0, start1.about1, start1.theMethod, start1.args0, start1.below0, start1.atStart⟩
end Jvm.Pilot.@@N@@
