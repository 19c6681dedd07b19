import JvmDerived
import JvmDerived.Pilot.@@N@@Statement
import JvmDerived.Pilot.@@N@@Code
set_option linter.unusedVariables false
set_option linter.unusedSimpArgs false
namespace Jvm.RoadKit
open Sem ClassFile Op Lib Jvm.Stand Jvm.Free Jvm.LawKit
section New
variable {p : Program} {l : Launch} {e : Env} {R : Room} {s : State} {m : MethodId} {args : Array Value} {below : List Frame} {meth : Method} {c : Code} {T : State} {locs : List Loc} {cells slots : Nat}
theorem retI (X : Stand p l e R s m args below meth c T locs cells slots) (hx : p.tables.exec = Jvm.exec) {pc : Nat} {Ls : Array Slot} {z : Int32} {rest : List Value} (hret : meth.sig.returnType = some .int) (hd : decode c.code pc = .ok (.ireturn, 1)) {fs : List Frame}
    (hl : ∀ (f : JFrame) (acts : List Action), f.method = m → f.locked = none → f.entered = [] → (doReturn e (T.setTop f) acts (some (.int z))).1 = T.setFrames fs) : Steps p.tables e below (T.setTop (mkF m pc Ls (.int z :: rest))) (T.setFrames fs) := by
  have hm' : T.vm.method? m = some meth := X.method'
  have hn : narrow .int (.int z) = .int z := rfl
  show Steps p.tables e below (T.setTop { method := m, pc := pc, locals := Ls, stack := _ :: rest, locked := none }) _
  jvm_step X.here [X.here.top, hx, hd, hm', hret, hn]
  first | (intro acts; rw [hl _ acts rfl rfl rfl]) | rw [hl _ _ rfl rfl rfl]
  exact Steps.refl _
end New
end Jvm.RoadKit
namespace Jvm.Wp
open Sem ClassFile Op Lib Jvm.Free Jvm.Stand Jvm.LawKit Jvm.RoadKit

/-- a cell of the walk's own small heap: an array (its kind, its values) or an object (its class, its fields: name, descriptor, value) -/
abbrev MC : Type := Sum (FieldType × List Value) (String × List (String × String × Value))
abbrev MH : Type := List (Addr × MC)
def COk (Z : State) (a0 : Array Value) (h : Heap) (a : Addr) : MC → Prop
  | .inl (ty, vs) => ∃ c : Cell, Arr Z h a c ty ∧ c.slots = vs.toArray ∧ vs.length < 2 ^ 31
  | .inr (C, fs) => Exa Z h a C ∧ (fs.map (·.1)).Nodup ∧ ∀ x ∈ fs, Fld Z h a C x.1 x.2.1 x.2.2 ∧ Laid Z a0 C C x.1 x.2.1 ∧ ∃ t, parseFieldDescriptor x.2.1 = some t
def Rel (Z : State) (a0 : Array Value) (n0 : Nat) (H : MH) (h : Heap) : Prop := n0 ≤ h.size ∧ (H.map (·.1)).Nodup ∧ ∀ x ∈ H, n0 ≤ x.1 ∧ COk Z a0 h x.1 x.2

theorem COk.lt {Z : State} {a0 : Array Value} {h : Heap} {a : Addr} {c : MC} (k : COk Z a0 h a c) : a < h.size := by
  cases c with
  | inl q => obtain ⟨ty, vs⟩ := q; obtain ⟨c, A, -⟩ := k; exact A.lt
  | inr q => obtain ⟨C, fs⟩ := q; exact k.1.lt
theorem COk.ext {Z : State} {a0 : Array Value} {h h' : Heap} {a : Addr} {c : MC} (E : Ext h h') (k : COk Z a0 h a c) : COk Z a0 h' a c := by
  cases c with
  | inl q => obtain ⟨ty, vs⟩ := q; obtain ⟨c, A, r⟩ := k; exact ⟨c, A.ext E, r⟩
  | inr q => obtain ⟨C, fs⟩ := q; exact ⟨k.1.ext E, k.2.1, fun x hx => ⟨(k.2.2 x hx).1.ext E, (k.2.2 x hx).2⟩⟩
theorem Rel.ext {Z : State} {a0 : Array Value} {n0 : Nat} {H : MH} {h h' : Heap} (E : Ext h h') (r : Rel Z a0 n0 H h) : Rel Z a0 n0 H h' := ⟨Nat.le_trans r.1 E.1, r.2.1, fun x hx => ⟨(r.2.2 x hx).1, (r.2.2 x hx).2.ext E⟩⟩
theorem Rel.push {Z : State} {a0 : Array Value} {n0 : Nat} {H : MH} {h h' : Heap} {c : MC} (E : Ext h h') (r : Rel Z a0 n0 H h) (k : COk Z a0 h' h.size c) : Rel Z a0 n0 ((h.size, c) :: H) h' := by
  refine ⟨Nat.le_trans r.1 E.1, ?_, fun x hx => ?_⟩
  · rw [List.map_cons, List.nodup_cons]
    refine ⟨fun q => ?_, r.2.1⟩
    obtain ⟨x, hx, e⟩ := List.mem_map.mp q
    have h1 := (r.2.2 x hx).2.lt
    rw [e] at h1
    exact Nat.lt_irrefl _ h1
  · rcases List.mem_cons.mp hx with rfl | q
    · exact ⟨r.1, k⟩
    · exact ⟨(r.2.2 x q).1, (r.2.2 x q).2.ext E⟩
/-- from pc on, with these locals, this stack, this small heap: the method returns, and Q holds of what it returns and of the small heap at the end -/
def WP (l : Launch) (Z : State) (a0 : Array Value) (n0 : Nat) (R : Room) (y : MethodName) (code : ByteArray) (mx : Nat) (ret : Option FieldType) (cells slots pc : Nat) (Ls : List Slot) (st : List Value) (H : MH) (Q : Option Value → MH → Prop) : Prop :=
  ∀ (p : Program) (e : Env) (s : State) (m : MethodId) (args : Array Value) (below : List Frame) (meth : Method) (c : Code) (T : State) (locs : List Loc),
    Stand p l e R s m args below meth c T locs cells slots → p.tables.exec = Jvm.exec → Z.Warmed39 s.vm → c.code = code → c.maxLocals = mx → s.vm.findClass y.cls = some m.cls → meth.name = y.name → meth.sig.returnType = ret → meth.locks = false →
    Fr n0 locs → Rel Z a0 n0 H T.heap → cells ≤ R.cells → slots ≤ R.slots →
    ∃ v H' L s₂, Steps p.tables e below (T.setTop (mkF m pc ⟨Ls⟩ st)) s₂ ∧ s₂.status = .running ∧ Ended s₂ below (.returned v) ∧ Fr n0 L ∧ Rel Z a0 n0 H' s₂.heap ∧ Q v H' ∧ s.WarmedH s₂.vm ∧ s.sameButNew ({ s₂ with vm := s.vm } : State) L R.cells R.slots
/-- a method's contract: called with these arguments over this small heap it returns, and Q holds -/
def Con (l : Launch) (Z : State) (a0 : Array Value) (n0 : Nat) (y : MethodName) (code : ByteArray) (mx : Nat) (ret : Option FieldType) (rm : Room) (as : Array Value) (H : MH) (Q : Option Value → MH → Prop) : Prop :=
  ∀ (ws : List Cond) (h0 : Heap), Rel Z a0 n0 H h0 → MetFree l y (head1 (Cond.code y code mx ret :: ws) rm) (fun a U => a = as ∧ Z.Warmed39 U.vm ∧ U.heap = h0) (fun _ _ _ _ _ => True)
    (fun _ U o U' => ∃ v L, o = .returned v ∧ (Fr n0 L ∧ ∃ H', Rel Z a0 n0 H' U'.heap ∧ Q v H') ∧ FrameEnd U o U' L rm.cells rm.slots)

variable {l : Launch} {Z : State} {a0 : Array Value} {n0 : Nat} {R : Room} {y : MethodName} {code : ByteArray} {mx : Nat} {ret : Option FieldType} {cells slots pc : Nat} {Ls : List Slot} {st : List Value} {H : MH} {Q : Option Value → MH → Prop}

def locsOf : List Value → List Slot
  | [] => []
  | v :: t => if v.category = 2 then .val v :: .second :: locsOf t else .val v :: locsOf t
theorem foldl_locs (l : List Value) : ∀ acc : Array Slot, l.foldl (fun acc v => if v.category = 2 then (acc.push (.val v)).push .second else acc.push (.val v)) acc = acc ++ (locsOf l).toArray := by
  induction l with
  | nil => intro acc; simp [locsOf]
  | cons v t ih =>
    intro acc
    rw [List.foldl_cons, ih, locsOf]
    split <;> simp
theorem efG (m : MethodId) (l : List Value) (mx : Nat) : entryFrame m l.toArray mx = mkF m 0 ⟨locsOf l ++ List.replicate (mx - (locsOf l).length) .unset⟩ [] := by
  have h : argsToLocals l.toArray mx = ⟨locsOf l ++ List.replicate (mx - (locsOf l).length) .unset⟩ := by
    unfold argsToLocals
    rw [show l.toArray.foldl (init := #[]) (fun acc v => if v.category = 2 then (acc.push (.val v)).push .second else acc.push (.val v)) = (locsOf l).toArray by rw [List.foldl_toArray, foldl_locs]; simp]
    apply Array.ext'
    simp
  simp only [entryFrame, mkF, h]
theorem Con.intro {rm : Room} {as : Array Value} (hpn : plainFor y = true) (hE : ∀ m, entryFrame m as mx = mkF m 0 ⟨Ls⟩ []) (h : WP l Z a0 n0 rm y code mx ret 0 0 0 Ls [] H Q) : Con l Z a0 n0 y code mx ret rm as H Q := by
  intro ws h0 hR
  refine MetFree.of_bodySF hpn hisR ?_
  intro p e s m args below meth c s₁ Bd hml0 hP hK
  obtain ⟨rfl, hZ, hh⟩ := hP
  have e0 : s₁.heap = h0 := by rw [← hh, Bd.state]; rfl
  obtain ⟨v, H', L, s2, k1, k2, k3, k4, k5, k6, k7, k8⟩ := h p e s m _ below meth c s₁ [] (Stand.of_body Bd) Bd.exec hZ Bd.bytes hml0 (findClass_of_methodNamed Bd.named) (name_of_methodNamed Bd.named Bd.method).1 Bd.returns Bd.notSynchronized (Fr.nil n0) (by rw [e0]; exact hR) (Nat.zero_le _) (Nat.zero_le _)
  exact ⟨s2, _, castTop (hE m) k1, k2, k3, v, L, rfl, ⟨k4, H', k5, k6⟩, ⟨_, rfl⟩, k7, k8⟩
theorem Con.mono {rm : Room} {as : Array Value} {Q' : Option Value → MH → Prop} (h : Con l Z a0 n0 y code mx ret rm as H Q) (k : ∀ v H', Q v H' → Q' v H') : Con l Z a0 n0 y code mx ret rm as H Q' := by
  intro ws h0 hR p e ha hc hk s m args below hf happ hP hK
  obtain ⟨n, o, q1, q2, q3, v, L, q4, ⟨q5, H', q6, q7⟩, q8⟩ := h ws h0 hR p e ha hc hk s m args below hf happ hP hK
  exact ⟨n, o, q1, q2, q3, v, L, q4, ⟨q5, H', q6, k _ _ q7⟩, q8⟩
theorem WP.mono {Q' : Option Value → MH → Prop} (h : WP l Z a0 n0 R y code mx ret cells slots pc Ls st H Q) (k : ∀ v H', Q v H' → Q' v H') : WP l Z a0 n0 R y code mx ret cells slots pc Ls st H Q' := by
  intro p e s m args below meth c T locs X hx hZ hc hm ho hn hr hl hF hR g1 g2
  obtain ⟨v, H', L, s2, k1, k2, k3, k4, k5, k6, k7⟩ := h p e s m args below meth c T locs X hx hZ hc hm ho hn hr hl hF hR g1 g2
  exact ⟨v, H', L, s2, k1, k2, k3, k4, k5, k _ _ k6, k7⟩

/-- a step that moves the frame alone -/
theorem pure {pc' : Nat} {Ls' : List Slot} {st' : List Value}
    (h : ∀ (p : Program) (e : Env) (m : MethodId) (below : List Frame) (c : Code) (T target : State), At T m c below → p.tables.exec = Jvm.exec → c.code = code → Steps p.tables e below (T.setTop (mkF m pc' ⟨Ls'⟩ st')) target → Steps p.tables e below (T.setTop (mkF m pc ⟨Ls⟩ st)) target)
    (k : WP l Z a0 n0 R y code mx ret cells slots pc' Ls' st' H Q) : WP l Z a0 n0 R y code mx ret cells slots pc Ls st H Q := by
  intro p e s m args below meth c T locs X hx hZ hc hm ho hn hr hl hF hR g1 g2
  obtain ⟨v, H', L, s2, k1, k2⟩ := k p e s m args below meth c T locs X hx hZ hc hm ho hn hr hl hF hR g1 g2
  exact ⟨v, H', L, s2, h p e m below c T s2 X.here hx hc k1, k2⟩
/-- a step that hands back a new state over the same heap -/
theorem stepT {pc' : Nat} {Ls' : List Slot} {st' : List Value}
    (h : ∀ (p : Program) (e : Env) (s : State) (m : MethodId) (args : Array Value) (below : List Frame) (meth : Method) (c : Code) (T : State) (locs : List Loc), Stand p l e R s m args below meth c T locs cells slots → p.tables.exec = Jvm.exec → Z.Warmed39 s.vm → c.code = code → c.maxLocals = mx → s.vm.findClass y.cls = some m.cls → Rel Z a0 n0 H T.heap →
      ∃ T', Stand p l e R s m args below meth c T' locs cells slots ∧ T'.heap = T.heap ∧ ∀ target, Steps p.tables e below (T'.setTop (mkF m pc' ⟨Ls'⟩ st')) target → Steps p.tables e below (T.setTop (mkF m pc ⟨Ls⟩ st)) target)
    (k : WP l Z a0 n0 R y code mx ret cells slots pc' Ls' st' H Q) : WP l Z a0 n0 R y code mx ret cells slots pc Ls st H Q := by
  intro p e s m args below meth c T locs X hx hZ hc hm ho hn hr hl hF hR g1 g2
  obtain ⟨T', X', e', st⟩ := h p e s m args below meth c T locs X hx hZ hc hm ho hR
  obtain ⟨v, H', L, s2, k1, k2⟩ := k p e s m args below meth c T' locs X' hx hZ hc hm ho hn hr hl hF (by rw [e']; exact hR) g1 g2
  exact ⟨v, H', L, s2, st _ k1, k2⟩
theorem iloadN {k : Fin 4} {v : Int32} {pc' : Nat} (hd : decode code pc = .ok (.iload_n k, 1)) (hl : Ls[k.val]? = some (.val (.int v))) (hp : pc + 1 = pc') (w : WP l Z a0 n0 R y code mx ret cells slots pc' Ls (.int v :: st) H Q) : WP l Z a0 n0 R y code mx ret cells slots pc Ls st H Q := by
  subst hp
  exact pure (fun p e m below c T t h hx hc hs => XS.iloadN h hx rfl (hb hc hd) (by simpa using hl) hs) w
theorem iload {k : Nat} {v : Int32} {pc' : Nat} (hd : decode code pc = .ok (.iload k, 2)) (hl : Ls[k]? = some (.val (.int v))) (hp : pc + 2 = pc') (w : WP l Z a0 n0 R y code mx ret cells slots pc' Ls (.int v :: st) H Q) : WP l Z a0 n0 R y code mx ret cells slots pc Ls st H Q := by
  subst hp
  exact pure (fun p e m below c T t h hx hc hs => XS.iload h hx rfl (hb hc hd) (by simpa using hl) hs) w
theorem lloadN {k : Fin 4} {v : Int64} {pc' : Nat} (hd : decode code pc = .ok (.lload_n k, 1)) (hl : Ls[k.val]? = some (.val (.long v))) (hp : pc + 1 = pc') (w : WP l Z a0 n0 R y code mx ret cells slots pc' Ls (.long v :: st) H Q) : WP l Z a0 n0 R y code mx ret cells slots pc Ls st H Q := by
  subst hp
  exact pure (fun p e m below c T t h hx hc hs => XS.lloadN h hx rfl (hb hc hd) (by simpa using hl) hs) w
theorem lload {k : Nat} {v : Int64} {pc' : Nat} (hd : decode code pc = .ok (.lload k, 2)) (hl : Ls[k]? = some (.val (.long v))) (hp : pc + 2 = pc') (w : WP l Z a0 n0 R y code mx ret cells slots pc' Ls (.long v :: st) H Q) : WP l Z a0 n0 R y code mx ret cells slots pc Ls st H Q := by
  subst hp
  exact pure (fun p e m below c T t h hx hc hs => XS.lload h hx rfl (hb hc hd) (by simpa using hl) hs) w
theorem iconst {i : Int} (n : Int32) {pc' : Nat} (hd : decode code pc = .ok (.iconst i, 1)) (hn : Int32.ofInt i = n) (hp : pc + 1 = pc') (w : WP l Z a0 n0 R y code mx ret cells slots pc' Ls (.int n :: st) H Q) : WP l Z a0 n0 R y code mx ret cells slots pc Ls st H Q := by
  subst hp hn
  exact pure (fun p e m below c T t h hx hc hs => XS.iconst h hx rfl (hb hc hd) hs) w
theorem lconst {i : Fin 2} (n : Int64) {pc' : Nat} (hd : decode code pc = .ok (.lconst i, 1)) (hn : Int64.ofNat i = n) (hp : pc + 1 = pc') (w : WP l Z a0 n0 R y code mx ret cells slots pc' Ls (.long n :: st) H Q) : WP l Z a0 n0 R y code mx ret cells slots pc Ls st H Q := by
  subst hp hn
  exact pure (fun p e m below c T t h hx hc hs => XS.lconst h hx rfl (hb hc hd) hs) w
theorem iand {x z : Int32} {pc' : Nat} (hd : decode code pc = .ok (.iand, 1)) (hp : pc + 1 = pc') (w : WP l Z a0 n0 R y code mx ret cells slots pc' Ls (.int (x &&& z) :: st) H Q) : WP l Z a0 n0 R y code mx ret cells slots pc Ls (.int z :: .int x :: st) H Q := by
  subst hp
  exact pure (fun p e m below c T t h hx hc hs => XS.iand h hx rfl (hb hc hd) rfl hs) w
theorem lmul {x z : Int64} {pc' : Nat} (hd : decode code pc = .ok (.lmul, 1)) (hp : pc + 1 = pc') (w : WP l Z a0 n0 R y code mx ret cells slots pc' Ls (.long (x * z) :: st) H Q) : WP l Z a0 n0 R y code mx ret cells slots pc Ls (.long z :: .long x :: st) H Q := by
  subst hp
  exact pure (fun p e m below c T t h hx hc hs => XS.lmul h hx rfl (hb hc hd) rfl hs) w
theorem land {x z : Int64} {pc' : Nat} (hd : decode code pc = .ok (.land, 1)) (hp : pc + 1 = pc') (w : WP l Z a0 n0 R y code mx ret cells slots pc' Ls (.long (x &&& z) :: st) H Q) : WP l Z a0 n0 R y code mx ret cells slots pc Ls (.long z :: .long x :: st) H Q := by
  subst hp
  exact pure (fun p e m below c T t h hx hc hs => XS.land h hx rfl (hb hc hd) rfl hs) w
theorem irem {x z : Int32} {pc' : Nat} (hd : decode code pc = .ok (.irem, 1)) (hz : z ≠ 0) (hp : pc + 1 = pc') (w : WP l Z a0 n0 R y code mx ret cells slots pc' Ls (.int (x % z) :: st) H Q) : WP l Z a0 n0 R y code mx ret cells slots pc Ls (.int z :: .int x :: st) H Q := by
  subst hp
  exact pure (fun p e m below c T t h hx hc hs => XS.irem h hx rfl (hb hc hd) rfl hz (by rw [irem_eq_mod]; exact hs)) w
theorem ldiv {x z : Int64} {pc' : Nat} (hd : decode code pc = .ok (.ldiv, 1)) (hz : z ≠ 0) (hp : pc + 1 = pc') (w : WP l Z a0 n0 R y code mx ret cells slots pc' Ls (.long (x / z) :: st) H Q) : WP l Z a0 n0 R y code mx ret cells slots pc Ls (.long z :: .long x :: st) H Q := by
  subst hp
  exact pure (fun p e m below c T t h hx hc hs => XS.ldiv h hx rfl (hb hc hd) rfl hz hs) w
theorem lcmp {x z : Int64} {pc' : Nat} (hd : decode code pc = .ok (.lcmp, 1)) (hp : pc + 1 = pc') (w : WP l Z a0 n0 R y code mx ret cells slots pc' Ls (.int (lcmpW x z) :: st) H Q) : WP l Z a0 n0 R y code mx ret cells slots pc Ls (.long z :: .long x :: st) H Q := by
  subst hp
  exact pure (fun p e m below c T t h hx hc hs => XS.lcmp h hx rfl (hb hc hd) rfl hs) w
theorem goto {o : Int} {pc' : Nat} (hd : decode code pc = .ok (.goto o, 3)) (hp : (pc : Int) + o = (pc' : Int)) (w : WP l Z a0 n0 R y code mx ret cells slots pc' Ls st H Q) : WP l Z a0 n0 R y code mx ret cells slots pc Ls st H Q :=
  pure (fun p e m below c T t h hx hc hs => XS.goto h hx rfl (pc0 := pc) (pc' := pc') rfl (hb hc hd) (by omega) (by omega) hs) w
theorem hI_ge {x z : Int32} : (if_icmp.holds .ge x z = true → z.toInt ≤ x.toInt) ∧ (if_icmp.holds .ge x z = false → x.toInt < z.toInt) := by
  constructor <;> intro hq <;> simp [if_icmp.holds, Int32.lt_iff_toInt_lt, Int32.le_iff_toInt_le] at hq ⊢ <;> first | omega | exact hq | simp_all
theorem icmp_ge {x z : Int32} {o : Int} {pt pf : Nat} (hd : decode code pc = .ok (.if_icmp .ge o, 3)) (hp : (pc : Int) + o = (pt : Int)) (hq : pc + 3 = pf) (wt : z.toInt ≤ x.toInt → WP l Z a0 n0 R y code mx ret cells slots pt Ls st H Q) (wf : x.toInt < z.toInt → WP l Z a0 n0 R y code mx ret cells slots pf Ls st H Q) : WP l Z a0 n0 R y code mx ret cells slots pc Ls (.int z :: .int x :: st) H Q := by
  subst hq
  cases hh : if_icmp.holds .ge x z
  · exact pure (fun p e m below c T t h hx hc hs => XS.icmpNo h hx rfl (hb hc hd) rfl hh hs) (wf (hI_ge.2 hh))
  · exact pure (fun p e m below c T t h hx hc hs => XS.icmpYes h hx rfl (pc0 := pc) (pc' := pt) rfl (hb hc hd) rfl hh (by omega) (by omega) hs) (wt (hI_ge.1 hh))
theorem hI_gt {x z : Int32} : (if_icmp.holds .gt x z = true → z.toInt < x.toInt) ∧ (if_icmp.holds .gt x z = false → x.toInt ≤ z.toInt) := by
  constructor <;> intro hq <;> simp [if_icmp.holds, Int32.lt_iff_toInt_lt, Int32.le_iff_toInt_le] at hq ⊢ <;> first | omega | exact hq | simp_all
theorem hZ_gt {x : Int32} : (ifCond.holds .gt x = true → 0 < x.toInt) ∧ (ifCond.holds .gt x = false → x.toInt ≤ 0) := by
  rw [if0]
  exact hI_gt (z := 0)
theorem if_gt {x : Int32} {o : Int} {pt pf : Nat} (hd : decode code pc = .ok (.ifCond .gt o, 3)) (hp : (pc : Int) + o = (pt : Int)) (hq : pc + 3 = pf) (wt : 0 < x.toInt → WP l Z a0 n0 R y code mx ret cells slots pt Ls st H Q) (wf : x.toInt ≤ 0 → WP l Z a0 n0 R y code mx ret cells slots pf Ls st H Q) : WP l Z a0 n0 R y code mx ret cells slots pc Ls (.int x :: st) H Q := by
  subst hq
  cases hh : ifCond.holds .gt x
  · exact pure (fun p e m below c T t h hx hc hs => XS.ifNo h hx rfl (hb hc hd) rfl hh hs) (wf (hZ_gt.2 hh))
  · exact pure (fun p e m below c T t h hx hc hs => XS.ifYes h hx rfl (pc0 := pc) (pc' := pt) rfl (hb hc hd) rfl hh (by omega) (by omega) hs) (wt (hZ_gt.1 hh))
theorem lcmp_gt {x z : Int64} {o : Int} {pt pf p1 : Nat} (hd : decode code pc = .ok (.lcmp, 1)) (h1 : pc + 1 = p1) (he : decode code p1 = .ok (.ifCond .gt o, 3)) (hp : (p1 : Int) + o = (pt : Int)) (hq : p1 + 3 = pf) (wt : z.toInt < x.toInt → WP l Z a0 n0 R y code mx ret cells slots pt Ls st H Q) (wf : x.toInt ≤ z.toInt → WP l Z a0 n0 R y code mx ret cells slots pf Ls st H Q) : WP l Z a0 n0 R y code mx ret cells slots pc Ls (.long z :: .long x :: st) H Q :=
  lcmp hd h1 (if_gt he hp hq (fun q => wt ((by obtain ⟨k1, k2, k3⟩ := c_lcmp x z; omega))) fun q => wf ((by obtain ⟨k1, k2, k3⟩ := c_lcmp x z; omega)))
theorem hI_le {x z : Int32} : (if_icmp.holds .le x z = true → x.toInt ≤ z.toInt) ∧ (if_icmp.holds .le x z = false → z.toInt < x.toInt) := by
  constructor <;> intro hq <;> simp [if_icmp.holds, Int32.lt_iff_toInt_lt, Int32.le_iff_toInt_le] at hq ⊢ <;> first | omega | exact hq | simp_all
theorem hZ_le {x : Int32} : (ifCond.holds .le x = true → x.toInt ≤ 0) ∧ (ifCond.holds .le x = false → 0 < x.toInt) := by
  rw [if0]
  exact hI_le (z := 0)
theorem if_le {x : Int32} {o : Int} {pt pf : Nat} (hd : decode code pc = .ok (.ifCond .le o, 3)) (hp : (pc : Int) + o = (pt : Int)) (hq : pc + 3 = pf) (wt : x.toInt ≤ 0 → WP l Z a0 n0 R y code mx ret cells slots pt Ls st H Q) (wf : 0 < x.toInt → WP l Z a0 n0 R y code mx ret cells slots pf Ls st H Q) : WP l Z a0 n0 R y code mx ret cells slots pc Ls (.int x :: st) H Q := by
  subst hq
  cases hh : ifCond.holds .le x
  · exact pure (fun p e m below c T t h hx hc hs => XS.ifNo h hx rfl (hb hc hd) rfl hh hs) (wf (hZ_le.2 hh))
  · exact pure (fun p e m below c T t h hx hc hs => XS.ifYes h hx rfl (pc0 := pc) (pc' := pt) rfl (hb hc hd) rfl hh (by omega) (by omega) hs) (wt (hZ_le.1 hh))
theorem lcmp_le {x z : Int64} {o : Int} {pt pf p1 : Nat} (hd : decode code pc = .ok (.lcmp, 1)) (h1 : pc + 1 = p1) (he : decode code p1 = .ok (.ifCond .le o, 3)) (hp : (p1 : Int) + o = (pt : Int)) (hq : p1 + 3 = pf) (wt : x.toInt ≤ z.toInt → WP l Z a0 n0 R y code mx ret cells slots pt Ls st H Q) (wf : z.toInt < x.toInt → WP l Z a0 n0 R y code mx ret cells slots pf Ls st H Q) : WP l Z a0 n0 R y code mx ret cells slots pc Ls (.long z :: .long x :: st) H Q :=
  lcmp hd h1 (if_le he hp hq (fun q => wt ((by obtain ⟨k1, k2, k3⟩ := c_lcmp x z; omega))) fun q => wf ((by obtain ⟨k1, k2, k3⟩ := c_lcmp x z; omega)))
theorem hI_ne {x z : Int32} : (if_icmp.holds .ne x z = true → ¬ x = z) ∧ (if_icmp.holds .ne x z = false → x = z) := by
  constructor <;> intro hq <;> simp [if_icmp.holds, Int32.lt_iff_toInt_lt, Int32.le_iff_toInt_le] at hq ⊢ <;> first | omega | exact hq | simp_all
theorem icmp_ne {x z : Int32} {o : Int} {pt pf : Nat} (hd : decode code pc = .ok (.if_icmp .ne o, 3)) (hp : (pc : Int) + o = (pt : Int)) (hq : pc + 3 = pf) (wt : ¬ x = z → WP l Z a0 n0 R y code mx ret cells slots pt Ls st H Q) (wf : x = z → WP l Z a0 n0 R y code mx ret cells slots pf Ls st H Q) : WP l Z a0 n0 R y code mx ret cells slots pc Ls (.int z :: .int x :: st) H Q := by
  subst hq
  cases hh : if_icmp.holds .ne x z
  · exact pure (fun p e m below c T t h hx hc hs => XS.icmpNo h hx rfl (hb hc hd) rfl hh hs) (wf (hI_ne.2 hh))
  · exact pure (fun p e m below c T t h hx hc hs => XS.icmpYes h hx rfl (pc0 := pc) (pc' := pt) rfl (hb hc hd) rfl hh (by omega) (by omega) hs) (wt (hI_ne.1 hh))
theorem hZ_ne {x : Int32} : (ifCond.holds .ne x = true → ¬ x = 0) ∧ (ifCond.holds .ne x = false → x = 0) := by
  rw [if0]
  exact hI_ne (z := 0)
theorem if_ne {x : Int32} {o : Int} {pt pf : Nat} (hd : decode code pc = .ok (.ifCond .ne o, 3)) (hp : (pc : Int) + o = (pt : Int)) (hq : pc + 3 = pf) (wt : ¬ x = 0 → WP l Z a0 n0 R y code mx ret cells slots pt Ls st H Q) (wf : x = 0 → WP l Z a0 n0 R y code mx ret cells slots pf Ls st H Q) : WP l Z a0 n0 R y code mx ret cells slots pc Ls (.int x :: st) H Q := by
  subst hq
  cases hh : ifCond.holds .ne x
  · exact pure (fun p e m below c T t h hx hc hs => XS.ifNo h hx rfl (hb hc hd) rfl hh hs) (wf (hZ_ne.2 hh))
  · exact pure (fun p e m below c T t h hx hc hs => XS.ifYes h hx rfl (pc0 := pc) (pc' := pt) rfl (hb hc hd) rfl hh (by omega) (by omega) hs) (wt (hZ_ne.1 hh))
theorem lcmp_ne {x z : Int64} {o : Int} {pt pf p1 : Nat} (hd : decode code pc = .ok (.lcmp, 1)) (h1 : pc + 1 = p1) (he : decode code p1 = .ok (.ifCond .ne o, 3)) (hp : (p1 : Int) + o = (pt : Int)) (hq : p1 + 3 = pf) (wt : ¬ x = z → WP l Z a0 n0 R y code mx ret cells slots pt Ls st H Q) (wf : x = z → WP l Z a0 n0 R y code mx ret cells slots pf Ls st H Q) : WP l Z a0 n0 R y code mx ret cells slots pc Ls (.long z :: .long x :: st) H Q :=
  lcmp hd h1 (if_ne he hp hq (fun q => wt (fun e => q ((lw_eq x z).mpr e))) fun q => wf ((lw_eq x z).mp q))
def ok1 : Slot → Bool
  | .unset => true
  | .val v => v.category == 1
  | .second => false
def ok2 : Slot → Slot → Bool
  | .val (.long _), .second => true
  | a, b => ok1 a && ok1 b
theorem stl1 (pre : List Slot) {o : Slot} {t : List Slot} {v : Value} (ho : ok1 o = true) (hv : v.category = 1) : storeLocals ⟨pre ++ o :: t⟩ pre.length v = some ⟨pre ++ .val v :: t⟩ := by
  have hg : (⟨pre ++ o :: t⟩ : Array Slot)[pre.length]? = some o := by simp
  have hs : storeSelf (⟨pre ++ o :: t⟩ : Array Slot) pre.length v = some ⟨pre ++ .val v :: t⟩ := by
    simp [storeSelf, setAt, hv, Array.setIfInBounds]
  cases o with
  | unset => simp only [storeLocals, hg]; exact hs
  | second => cases ho
  | val w =>
    have hw : ¬ w.category = 2 := by simp only [ok1, beq_iff_eq] at ho; omega
    simp only [storeLocals, hg]
    show (if w.category = 2 then _ else _) = _
    rw [if_neg hw]; exact hs
theorem stl2 (pre : List Slot) {o o' : Slot} {t : List Slot} {x : Int64} (ho : ok2 o o' = true) : storeLocals ⟨pre ++ o :: o' :: t⟩ pre.length (.long x) = some ⟨pre ++ .val (.long x) :: .second :: t⟩ := by
  have hg : (⟨pre ++ o :: o' :: t⟩ : Array Slot)[pre.length]? = some o := by simp
  have hs : ∀ q : Slot, (∀ w, q = .val w → w.category = 1) → storeSelf (⟨pre ++ o :: q :: t⟩ : Array Slot) pre.length (.long x) = some ⟨pre ++ .val (.long x) :: .second :: t⟩ := by
    intro q hq
    have e1 : setAt (⟨pre ++ o :: q :: t⟩ : Array Slot) pre.length (.val (.long x)) = some ⟨pre ++ .val (.long x) :: q :: t⟩ := by simp [setAt, Array.setIfInBounds]
    have e2 : (⟨pre ++ .val (.long x) :: q :: t⟩ : Array Slot)[pre.length + 1]? = some q := by simp
    have e3 : setAt (⟨pre ++ .val (.long x) :: q :: t⟩ : Array Slot) (pre.length + 1) .second = some ⟨pre ++ .val (.long x) :: .second :: t⟩ := by
      simp [setAt, Array.setIfInBounds]
    cases q with
    | unset => simp only [storeSelf, e1]; simp [Value.category, e2, e3]
    | second => simp only [storeSelf, e1]; simp [Value.category, e2, e3]
    | val w =>
      have hw1 : w.category = 1 := hq w rfl
      cases w <;> first | (simp [Value.category] at hw1; done) | (simp only [storeSelf, e1]; simp [Value.category, e2, e3])
  have hl : ∀ w : Value, ok1 (.val w) = true → w.category = 1 := fun w h => by simpa [ok1] using h
  have main : ∀ {o o' : Slot}, ok1 o = true → ok1 o' = true → (∀ q : Slot, (∀ w, q = .val w → w.category = 1) → storeSelf (⟨pre ++ o :: q :: t⟩ : Array Slot) pre.length (.long x) = some ⟨pre ++ .val (.long x) :: .second :: t⟩) → storeLocals ⟨pre ++ o :: o' :: t⟩ pre.length (.long x) = some ⟨pre ++ .val (.long x) :: .second :: t⟩ := by
    intro o o' h1 h2 hs
    have hg : (⟨pre ++ o :: o' :: t⟩ : Array Slot)[pre.length]? = some o := by simp
    have h3 := hs o' fun w e => hl w (by rw [← e]; exact h2)
    cases o with
    | unset => simp only [storeLocals, hg]; exact h3
    | second => cases h1
    | val w =>
      have hw : ¬ w.category = 2 := by have := hl w h1; omega
      simp only [storeLocals, hg]
      show (if w.category = 2 then _ else _) = _
      rw [if_neg hw]; exact h3
  by_cases hb : ok1 o = true ∧ ok1 o' = true
  · exact main hb.1 hb.2 hs
  · have : (∃ z, o = .val (.long z)) ∧ o' = .second := by
      unfold ok2 at ho
      split at ho
      · exact ⟨⟨_, rfl⟩, rfl⟩
      · simp only [Bool.and_eq_true] at ho; exact absurd ho hb
    obtain ⟨⟨z, rfl⟩, rfl⟩ := this
    simp only [storeLocals, hg]
    have e4 : setAt (⟨pre ++ .val (.long z) :: .second :: t⟩ : Array Slot) (pre.length + 1) .unset = some ⟨pre ++ .val (.long z) :: .unset :: t⟩ := by
      simp [setAt, Array.setIfInBounds]
    simp only [Option.bind_eq_bind, Option.bind_some, Value.category, if_true, e4]
    exact hs .unset fun w e => by cases e
theorem lstoreN_3 {s0 s1 s2 : Slot} {o o' : Slot} {t : List Slot} {x : Int64} {pc' : Nat} (hd : decode code pc = .ok (.lstore_n 3, 1)) (ho : ok2 o o' = true) (hp : pc + 1 = pc') (w : WP l Z a0 n0 R y code mx ret cells slots pc' (s0 :: s1 :: s2 :: .val (.long x) :: .second :: t) st H Q) : WP l Z a0 n0 R y code mx ret cells slots pc (s0 :: s1 :: s2 :: o :: o' :: t) (.long x :: st) H Q := by
  subst hp
  exact pure (fun p e m below c T t h hx hc' hs => XS.lstoreN h hx rfl (hb hc' hd) rfl (stl2 [s0, s1, s2] ho) hs) w
theorem istore_5 {s0 s1 s2 s3 s4 : Slot} {o : Slot} {t : List Slot} {x : Int32} {pc' : Nat} (hd : decode code pc = .ok (.istore 5, 2)) (ho : ok1 o = true) (hp : pc + 2 = pc') (w : WP l Z a0 n0 R y code mx ret cells slots pc' (s0 :: s1 :: s2 :: s3 :: s4 :: .val (.int x) :: t) st H Q) : WP l Z a0 n0 R y code mx ret cells slots pc (s0 :: s1 :: s2 :: s3 :: s4 :: o :: t) (.int x :: st) H Q := by
  subst hp
  exact pure (fun p e m below c T t h hx hc' hs => XS.istore h hx rfl (hb hc' hd) rfl (stl1 [s0, s1, s2, s3, s4] ho rfl) hs) w
theorem iinc_5 {s0 s1 s2 s3 s4 : Slot} {t : List Slot} {x : Int32} {i : Int} (n : Int32) {pc' : Nat} (hd : decode code pc = .ok (.iinc 5 i, 3)) (hn : Int32.ofInt i = n) (hp : pc + 3 = pc') (w : WP l Z a0 n0 R y code mx ret cells slots pc' (s0 :: s1 :: s2 :: s3 :: s4 :: .val (.int (x + n)) :: t) st H Q) : WP l Z a0 n0 R y code mx ret cells slots pc (s0 :: s1 :: s2 :: s3 :: s4 :: .val (.int x) :: t) st H Q := by
  subst hp hn
  exact pure (fun p e m below c T t h hx hc' hs => XS.iinc h hx rfl (hb hc' hd) rfl (stl1 [s0, s1, s2, s3, s4] rfl rfl) hs) w
theorem lstore_6 {s0 s1 s2 s3 s4 s5 : Slot} {o o' : Slot} {t : List Slot} {x : Int64} {pc' : Nat} (hd : decode code pc = .ok (.lstore 6, 2)) (ho : ok2 o o' = true) (hp : pc + 2 = pc') (w : WP l Z a0 n0 R y code mx ret cells slots pc' (s0 :: s1 :: s2 :: s3 :: s4 :: s5 :: .val (.long x) :: .second :: t) st H Q) : WP l Z a0 n0 R y code mx ret cells slots pc (s0 :: s1 :: s2 :: s3 :: s4 :: s5 :: o :: o' :: t) (.long x :: st) H Q := by
  subst hp
  exact pure (fun p e m below c T t h hx hc' hs => XS.lstore h hx rfl (hb hc' hd) rfl (stl2 [s0, s1, s2, s3, s4, s5] ho) hs) w
theorem lstore_8 {s0 s1 s2 s3 s4 s5 s6 s7 : Slot} {o o' : Slot} {t : List Slot} {x : Int64} {pc' : Nat} (hd : decode code pc = .ok (.lstore 8, 2)) (ho : ok2 o o' = true) (hp : pc + 2 = pc') (w : WP l Z a0 n0 R y code mx ret cells slots pc' (s0 :: s1 :: s2 :: s3 :: s4 :: s5 :: s6 :: s7 :: .val (.long x) :: .second :: t) st H Q) : WP l Z a0 n0 R y code mx ret cells slots pc (s0 :: s1 :: s2 :: s3 :: s4 :: s5 :: s6 :: s7 :: o :: o' :: t) (.long x :: st) H Q := by
  subst hp
  exact pure (fun p e m below c T t h hx hc' hs => XS.lstore h hx rfl (hb hc' hd) rfl (stl2 [s0, s1, s2, s3, s4, s5, s6, s7] ho) hs) w
theorem lstore_10 {s0 s1 s2 s3 s4 s5 s6 s7 s8 s9 : Slot} {o o' : Slot} {t : List Slot} {x : Int64} {pc' : Nat} (hd : decode code pc = .ok (.lstore 10, 2)) (ho : ok2 o o' = true) (hp : pc + 2 = pc') (w : WP l Z a0 n0 R y code mx ret cells slots pc' (s0 :: s1 :: s2 :: s3 :: s4 :: s5 :: s6 :: s7 :: s8 :: s9 :: .val (.long x) :: .second :: t) st H Q) : WP l Z a0 n0 R y code mx ret cells slots pc (s0 :: s1 :: s2 :: s3 :: s4 :: s5 :: s6 :: s7 :: s8 :: s9 :: o :: o' :: t) (.long x :: st) H Q := by
  subst hp
  exact pure (fun p e m below c T t h hx hc' hs => XS.lstore h hx rfl (hb hc' hd) rfl (stl2 [s0, s1, s2, s3, s4, s5, s6, s7, s8, s9] ho) hs) w
theorem ldcI {i : Nat} {n : Int32} {pc' : Nat} (hw : (Cond.constant y.cls i n).before a0 Z = true) (hd : decode code pc = .ok (.ldc i, 2)) (hp : pc + 2 = pc') (w : WP l Z a0 n0 R y code mx ret cells slots pc' Ls (.int n :: st) H Q) : WP l Z a0 n0 R y code mx ret cells slots pc Ls st H Q := by
  subst hp
  exact stepT (fun p e s m args below meth c T locs X hx hZ hc hm ho hR => ⟨T, X, rfl, X.ldcInt hx ho (mvT hZ hw) (g := mkF m pc ⟨Ls⟩ st) rfl (hb hc hd)⟩) w
theorem ldcL {i : Nat} {n : Int64} {pc' : Nat} (hw : (Cond.constantLong y.cls i n).before a0 Z = true) (hd : decode code pc = .ok (.ldc2_w i, 3)) (hp : pc + 3 = pc') (w : WP l Z a0 n0 R y code mx ret cells slots pc' Ls (.long n :: st) H Q) : WP l Z a0 n0 R y code mx ret cells slots pc Ls st H Q := by
  subst hp
  exact stepT (fun p e s m args below meth c T locs X hx hZ hc hm ho hR => ⟨T, X, rfl, X.ldc2Long hx ho (mvT hZ hw) (g := mkF m pc ⟨Ls⟩ st) rfl (hb hc hd)⟩) w
theorem leaveW {v : Option Value} {st : List Value} (hv : ret = none → v = none) (q : Q v H)
    (h : ∀ (p : Program) (e : Env) (s : State) (m : MethodId) (args : Array Value) (below : List Frame) (meth : Method) (c : Code) (T : State) (locs : List Loc) (fs : List Frame), Stand p l e R s m args below meth c T locs cells slots → p.tables.exec = Jvm.exec → c.code = code → meth.sig.returnType = ret → (∀ (f : JFrame) (acts : List Action), f.method = m → f.locked = none → f.entered = [] → (doReturn e (T.setTop f) acts v).1 = T.setFrames fs) → Steps p.tables e below (T.setTop (mkF m pc ⟨Ls⟩ st)) (T.setFrames fs)) : WP l Z a0 n0 R y code mx ret cells slots pc Ls st H Q := by
  intro p e s m args below meth c T locs X hx hZ hc hm ho hn hr hl hF hR g1 g2
  obtain ⟨fs, hrr, hrun, hended, hW, hsame⟩ := X.leave (v := v) (fun k => hv (by rw [← hr]; exact k)) hl
  exact ⟨v, H, locs, _, h p e s m args below meth c T locs fs X hx hc hr hrr, hrun, hended, hF, hR, q, hW, hsame.mono g1 g2⟩
theorem ireturn {z : Int32} (hret : ret = some .int) (hd : decode code pc = .ok (.ireturn, 1)) (q : Q (some (.int z)) H) : WP l Z a0 n0 R y code mx ret cells slots pc Ls (.int z :: st) H Q :=
  leaveW (fun k => by rw [hret] at k; cases k) q fun p e s m args below meth c T locs fs X hx hc hr hrr => retI X hx (hr.trans hret) (hb hc hd) hrr
theorem zreturn {z : Int32} (hret : ret = some .boolean) (hd : decode code pc = .ok (.ireturn, 1)) (q : Q (some (.int (z &&& 1))) H) : WP l Z a0 n0 R y code mx ret cells slots pc Ls (.int z :: st) H Q :=
  leaveW (fun k => by rw [hret] at k; cases k) q fun p e s m args below meth c T locs fs X hx hc hr hrr => retN X hx (t := .boolean) (hr.trans hret) (by simp) (hb hc hd) hrr
theorem lreturn {z : Int64} (hret : ret = some .long) (hd : decode code pc = .ok (.lreturn, 1)) (q : Q (some (.long z)) H) : WP l Z a0 n0 R y code mx ret cells slots pc Ls (.long z :: st) H Q :=
  leaveW (fun k => by rw [hret] at k; cases k) q fun p e s m args below meth c T locs fs X hx hc hr hrr => retOut X hx (hr.trans hret) rfl (Or.inr (Or.inl ⟨rfl, rfl, _, rfl⟩)) (hb hc hd) hrr
/-- what a call by a contract leaves -/
def After (l : Launch) (Z : State) (a0 : Array Value) (n0 : Nat) (R : Room) (y : MethodName) (code : ByteArray) (mx : Nat) (ret : Option FieldType) (cells slots pc : Nat) (Ls : List Slot) (st : List Value) (Q : Option Value → MH → Prop) : Option Value → MH → Prop
  | some r, H' => WP l Z a0 n0 R y code mx ret cells slots pc Ls (r :: st) H' Q
  | none, H' => WP l Z a0 n0 R y code mx ret cells slots pc Ls st H' Q
theorem After.to {v : Option Value} {H' : MH} (h : After l Z a0 n0 R y code mx ret cells slots pc Ls st Q v H') : WP l Z a0 n0 R y code mx ret cells slots pc Ls (v.toList ++ st) H' Q := by
  cases v <;> exact h
theorem callSG {z : MethodName} {zc : ByteArray} {zm : Nat} {zr : Option FieldType} {ps : List FieldType} {i : Nat} {rm : Room} {pc' : Nat} (W : Nat) (argsL : List Value) {rest : List Value} (w1 : (Cond.methodLink y.cls i z).before a0 Z = true) (w2 : (Cond.static z).before a0 Z = true) (w3 : (Cond.initialized z.cls).before a0 Z = true) (w4 : (Cond.code z zc zm zr).before a0 Z = true) (hy : z.cls ≠ "java/lang/invoke/MethodHandle" ∧ z.cls ≠ "java/lang/invoke/VarHandle") (hds : parseMethodDescriptor z.desc = some ⟨ps, zr⟩) (hlen : argsL.length = ps.length) (hd : decode code pc = .ok (.invokestatic i, 3)) (hs : Ls.length = mx) (hW : (rest.map fun v => v.category).sum = W) (hf : rm.frames + 1 ≤ R.frames) (hl : W + (zm + 11) + rm.locals ≤ R.locals) (hc : cells + rm.cells ≤ R.cells) (hsl : slots + rm.slots ≤ R.slots) (hp : pc + 3 = pc') {cells' slots' : Nat} (hc' : cells + rm.cells = cells') (hs' : slots + rm.slots = slots') (hst : st = argsL.reverse ++ rest)
    (k : Con l Z a0 n0 z zc zm zr rm argsL.toArray H (After l Z a0 n0 R y code mx ret cells' slots' pc' Ls rest Q)) : WP l Z a0 n0 R y code mx ret cells slots pc Ls st H Q := by
  subst hp hst hc' hs'
  intro p e s m args below meth c T locs X hx hZ hcode hm ho hnm hr hlk hF hR g1 g2
  obtain ⟨v, vm, ⟨T', L', k', n'⟩, -, X', ⟨Lc, ⟨q1, H', q2, q3⟩, e1, e2, e3⟩, st'⟩ := Jvm.LawKit.callS X hx (y := z) ho (mvT hZ w1) (mvT hZ w2) (mvT hZ w3) (mvT hZ w4) hy (backOf (W := W) (h := T.heap) (Q := fun v h L => Fr n0 L ∧ ∃ H', Rel Z a0 n0 H' h ∧ After l Z a0 n0 R y code mx ret (cells + rm.cells) (slots + rm.slots) (pc + 3) Ls rest Q v H') (k [] T.heap hR) hZ w4 w3 hf hl) (g := mkF m pc ⟨Ls⟩ (argsL.reverse ++ rest)) rfl (by rw [hm]; simpa using hs) (argsL := argsL) (rest := rest) (lenOf hds hlen) rfl (by show 2 * 0 + _ ≤ _; omega) (hb hcode hd) (fun _ _ => ⟨rfl, rfl, hc, hsl⟩)
  dsimp only [Pt.U, Pt.locs, Pt.cells, Pt.slots] at X' e1 e2 e3 st'
  subst e1 e2 e3
  obtain ⟨v2, H2, L2, s2, k1, k2⟩ := (After.to q3) p e s m args below meth c T' _ X' hx hZ hcode hm ho hnm hr hlk (Fr.app hF q1) q2 hc hsl
  exact ⟨v2, H2, L2, s2, st' _ k1, k2⟩
theorem afterS {r : Value} {H' : MH} (h : WP l Z a0 n0 R y code mx ret cells slots pc Ls (r :: st) H' Q) : After l Z a0 n0 R y code mx ret cells slots pc Ls st Q (some r) H' := h
theorem callS_1 {z : MethodName} {zc : ByteArray} {zm : Nat} {zr : Option FieldType} {ps : List FieldType} {i : Nat} {rm : Room} {pc' : Nat} (W : Nat) {v0 : Value} {rest : List Value} (w1 : (Cond.methodLink y.cls i z).before a0 Z = true) (w2 : (Cond.static z).before a0 Z = true) (w3 : (Cond.initialized z.cls).before a0 Z = true) (w4 : (Cond.code z zc zm zr).before a0 Z = true) (hy : z.cls ≠ "java/lang/invoke/MethodHandle" ∧ z.cls ≠ "java/lang/invoke/VarHandle") (hds : parseMethodDescriptor z.desc = some ⟨ps, zr⟩) (hlen : 1 = ps.length) (hd : decode code pc = .ok (.invokestatic i, 3)) (hs : Ls.length = mx) (hW : (rest.map fun v => v.category).sum = W) (hf : rm.frames + 1 ≤ R.frames) (hl : W + (zm + 11) + rm.locals ≤ R.locals) (hc : cells + rm.cells ≤ R.cells) (hsl : slots + rm.slots ≤ R.slots) (hp : pc + 3 = pc') {cells' slots' : Nat} (hc' : cells + rm.cells = cells') (hs' : slots + rm.slots = slots') (k : Con l Z a0 n0 z zc zm zr rm #[v0] H (After l Z a0 n0 R y code mx ret cells' slots' pc' Ls rest Q)) : WP l Z a0 n0 R y code mx ret cells slots pc Ls (v0 :: rest) H Q := callSG W [v0] w1 w2 w3 w4 hy hds hlen hd hs hW hf hl hc hsl hp hc' hs' rfl k
theorem callS_2 {z : MethodName} {zc : ByteArray} {zm : Nat} {zr : Option FieldType} {ps : List FieldType} {i : Nat} {rm : Room} {pc' : Nat} (W : Nat) {v0 v1 : Value} {rest : List Value} (w1 : (Cond.methodLink y.cls i z).before a0 Z = true) (w2 : (Cond.static z).before a0 Z = true) (w3 : (Cond.initialized z.cls).before a0 Z = true) (w4 : (Cond.code z zc zm zr).before a0 Z = true) (hy : z.cls ≠ "java/lang/invoke/MethodHandle" ∧ z.cls ≠ "java/lang/invoke/VarHandle") (hds : parseMethodDescriptor z.desc = some ⟨ps, zr⟩) (hlen : 2 = ps.length) (hd : decode code pc = .ok (.invokestatic i, 3)) (hs : Ls.length = mx) (hW : (rest.map fun v => v.category).sum = W) (hf : rm.frames + 1 ≤ R.frames) (hl : W + (zm + 11) + rm.locals ≤ R.locals) (hc : cells + rm.cells ≤ R.cells) (hsl : slots + rm.slots ≤ R.slots) (hp : pc + 3 = pc') {cells' slots' : Nat} (hc' : cells + rm.cells = cells') (hs' : slots + rm.slots = slots') (k : Con l Z a0 n0 z zc zm zr rm #[v0, v1] H (After l Z a0 n0 R y code mx ret cells' slots' pc' Ls rest Q)) : WP l Z a0 n0 R y code mx ret cells slots pc Ls (v1 :: v0 :: rest) H Q := callSG W [v0, v1] w1 w2 w3 w4 hy hds hlen hd hs hW hf hl hc hsl hp hc' hs' rfl k
end Jvm.Wp
namespace Jvm.Pilot.@@N@@
open Jvm Jvm.ClassFile Sem Op Lib Jvm.Free Jvm.Stand Jvm.LawKit Jvm.RoadKit Bundle Jvm.Pilot.@@N@@.Jvm.D
set_option maxHeartbeats 8000000
abbrev Hw (Z : State) (a0 : Array Value) : Prop := ∀ d ∈ tables_1, d.before a0 Z = true
theorem w0 {Z : State} {a0 : Array Value} (hw : Hw Z a0) : (Jvm.Cond.constantLong "com/example/tick6/tick6/rating/TariffUnitsPinLaw" (17 : Nat) (9223372036854775807 : Int64)).before a0 Z = true := hw _ (List.mem_of_getElem? (i := 0) rfl)
theorem w1 {Z : State} {a0 : Array Value} (hw : Hw Z a0) : (Jvm.Cond.constant "com/example/tick6/tick6/rating/TariffUnitsPinLaw" (19 : Nat) (2147483647 : Int32)).before a0 Z = true := hw _ (List.mem_of_getElem? (i := 1) rfl)
theorem w2 {Z : State} {a0 : Array Value} (hw : Hw Z a0) : (Jvm.Cond.methodLink "com/example/tick6/tick6/rating/TariffUnitsPinLaw" (20 : Nat) ({ cls := "com/example/tick6/tick6/rating/TariffUnitsPinLaw", name := "unitOf", desc := "(I)J" } : Jvm.MethodName)).before a0 Z = true := hw _ (List.mem_of_getElem? (i := 2) rfl)
theorem w3 {Z : State} {a0 : Array Value} (hw : Hw Z a0) : (Jvm.Cond.static ({ cls := "com/example/tick6/tick6/rating/TariffUnitsPinLaw", name := "unitOf", desc := "(I)J" } : Jvm.MethodName)).before a0 Z = true := hw _ (List.mem_of_getElem? (i := 3) rfl)
theorem w4 {Z : State} {a0 : Array Value} (hw : Hw Z a0) : (Jvm.Cond.initialized "com/example/tick6/tick6/rating/TariffUnitsPinLaw").before a0 Z = true := hw _ (List.mem_of_getElem? (i := 4) rfl)
theorem w5 {Z : State} {a0 : Array Value} (hw : Hw Z a0) : (Jvm.Cond.code ({ cls := "com/example/tick6/tick6/rating/TariffUnitsPinLaw", name := "unitOf", desc := "(I)J" } : Jvm.MethodName) method_2_code (1 : Nat) (Option.some Jvm.ClassFile.FieldType.long)).before a0 Z = true := hw _ (List.mem_of_getElem? (i := 5) rfl)
theorem w6 {Z : State} {a0 : Array Value} (hw : Hw Z a0) : (Jvm.Cond.constantLong "com/example/tick6/tick6/rating/TariffUnitsPinLaw" (11 : Nat) (100 : Int64)).before a0 Z = true := hw _ (List.mem_of_getElem? (i := 6) rfl)
theorem w7 {Z : State} {a0 : Array Value} (hw : Hw Z a0) : (Jvm.Cond.constantLong "com/example/tick6/tick6/rating/TariffUnitsPinLaw" (26 : Nat) (2147483647 : Int64)).before a0 Z = true := hw _ (List.mem_of_getElem? (i := 7) rfl)
theorem w8 {Z : State} {a0 : Array Value} (hw : Hw Z a0) : (Jvm.Cond.methodLink "com/example/tick6/tick6/rating/TariffUnitsPinLaw" (30 : Nat) ({ cls := "com/example/tick6/tick6/rating/Tariff", name := "units", desc := "(JI)J" } : Jvm.MethodName)).before a0 Z = true := hw _ (List.mem_of_getElem? (i := 8) rfl)
theorem w9 {Z : State} {a0 : Array Value} (hw : Hw Z a0) : (Jvm.Cond.static ({ cls := "com/example/tick6/tick6/rating/Tariff", name := "units", desc := "(JI)J" } : Jvm.MethodName)).before a0 Z = true := hw _ (List.mem_of_getElem? (i := 9) rfl)
theorem w10 {Z : State} {a0 : Array Value} (hw : Hw Z a0) : (Jvm.Cond.initialized "com/example/tick6/tick6/rating/Tariff").before a0 Z = true := hw _ (List.mem_of_getElem? (i := 10) rfl)
theorem w11 {Z : State} {a0 : Array Value} (hw : Hw Z a0) : (Jvm.Cond.code ({ cls := "com/example/tick6/tick6/rating/Tariff", name := "units", desc := "(JI)J" } : Jvm.MethodName) prog_48_method_3_code (6 : Nat) (Option.some Jvm.ClassFile.FieldType.long)).before a0 Z = true := hw _ (List.mem_of_getElem? (i := 11) rfl)
theorem w12 {Z : State} {a0 : Array Value} (hw : Hw Z a0) : (Jvm.Cond.constantLong "com/example/tick6/tick6/rating/Tariff" (90 : Nat) (10 : Int64)).before a0 Z = true := hw _ (List.mem_of_getElem? (i := 12) rfl)
theorem w13 {Z : State} {a0 : Array Value} (hw : Hw Z a0) : (Jvm.Cond.constantLong "com/example/tick6/tick6/rating/Tariff" (92 : Nat) (2147483647 : Int64)).before a0 Z = true := hw _ (List.mem_of_getElem? (i := 13) rfl)
theorem w14 {Z : State} {a0 : Array Value} (hw : Hw Z a0) : (Jvm.Cond.constantLong "com/example/tick6/tick6/rating/TariffUnitsPinLaw" (28 : Nat) (-1 : Int64)).before a0 Z = true := hw _ (List.mem_of_getElem? (i := 14) rfl)
theorem w15 {Z : State} {a0 : Array Value} (hw : Hw Z a0) : (Jvm.Cond.constantLong "com/example/tick6/tick6/rating/Tariff" (54 : Nat) (-1 : Int64)).before a0 Z = true := hw _ (List.mem_of_getElem? (i := 15) rfl)
theorem w16 {Z : State} {a0 : Array Value} (hw : Hw Z a0) : (Jvm.Cond.constantLong "com/example/tick6/tick6/rating/TariffUnitsPinLaw" (13 : Nat) (10 : Int64)).before a0 Z = true := hw _ (List.mem_of_getElem? (i := 16) rfl)
theorem w17 {Z : State} {a0 : Array Value} (hw : Hw Z a0) : (Jvm.Cond.constantLong "com/example/tick6/tick6/rating/TariffUnitsPinLaw" (9 : Nat) (1000 : Int64)).before a0 Z = true := hw _ (List.mem_of_getElem? (i := 17) rfl)
theorem w18 {Z : State} {a0 : Array Value} (hw : Hw Z a0) : (Jvm.Cond.constantLong "com/example/tick6/tick6/rating/TariffUnitsPinLaw" (7 : Nat) (10000 : Int64)).before a0 Z = true := hw _ (List.mem_of_getElem? (i := 18) rfl)
theorem d1_0 : decode method_2_code 0 = .ok (.iload_n 0, 1) := by decide +kernel
theorem d1_1 : decode method_2_code 1 = .ok (.ifCond .ne 7, 3) := by decide +kernel
theorem d1_4 : decode method_2_code 4 = .ok (.ldc2_w 7, 3) := by decide +kernel
theorem d1_7 : decode method_2_code 7 = .ok (.lreturn, 1) := by decide +kernel
theorem d1_8 : decode method_2_code 8 = .ok (.iload_n 0, 1) := by decide +kernel
theorem d1_9 : decode method_2_code 9 = .ok (.iconst 1, 1) := by decide +kernel
theorem d1_10 : decode method_2_code 10 = .ok (.if_icmp .ne 7, 3) := by decide +kernel
theorem d1_13 : decode method_2_code 13 = .ok (.ldc2_w 9, 3) := by decide +kernel
theorem d1_16 : decode method_2_code 16 = .ok (.lreturn, 1) := by decide +kernel
theorem d1_17 : decode method_2_code 17 = .ok (.iload_n 0, 1) := by decide +kernel
theorem d1_18 : decode method_2_code 18 = .ok (.iconst 2, 1) := by decide +kernel
theorem d1_19 : decode method_2_code 19 = .ok (.if_icmp .ne 7, 3) := by decide +kernel
theorem d1_22 : decode method_2_code 22 = .ok (.ldc2_w 11, 3) := by decide +kernel
theorem d1_25 : decode method_2_code 25 = .ok (.lreturn, 1) := by decide +kernel
theorem d1_26 : decode method_2_code 26 = .ok (.iload_n 0, 1) := by decide +kernel
theorem d1_27 : decode method_2_code 27 = .ok (.iconst 3, 1) := by decide +kernel
theorem d1_28 : decode method_2_code 28 = .ok (.if_icmp .ne 7, 3) := by decide +kernel
theorem d1_31 : decode method_2_code 31 = .ok (.ldc2_w 13, 3) := by decide +kernel
theorem d1_34 : decode method_2_code 34 = .ok (.lreturn, 1) := by decide +kernel
theorem d1_35 : decode method_2_code 35 = .ok (.lconst 1, 1) := by decide +kernel
theorem d1_36 : decode method_2_code 36 = .ok (.lreturn, 1) := by decide +kernel
theorem d2_0 : decode prog_48_method_3_code 0 = .ok (.lconst 1, 1) := by decide +kernel
theorem d2_1 : decode prog_48_method_3_code 1 = .ok (.lstore_n 3, 1) := by decide +kernel
theorem d2_2 : decode prog_48_method_3_code 2 = .ok (.iload_n 2, 1) := by decide +kernel
theorem d2_3 : decode prog_48_method_3_code 3 = .ok (.istore 5, 2) := by decide +kernel
theorem d2_5 : decode prog_48_method_3_code 5 = .ok (.iload 5, 2) := by decide +kernel
theorem d2_7 : decode prog_48_method_3_code 7 = .ok (.iconst 4, 1) := by decide +kernel
theorem d2_8 : decode prog_48_method_3_code 8 = .ok (.if_icmp .ge 15, 3) := by decide +kernel
theorem d2_11 : decode prog_48_method_3_code 11 = .ok (.lload_n 3, 1) := by decide +kernel
theorem d2_12 : decode prog_48_method_3_code 12 = .ok (.ldc2_w 90, 3) := by decide +kernel
theorem d2_15 : decode prog_48_method_3_code 15 = .ok (.lmul, 1) := by decide +kernel
theorem d2_16 : decode prog_48_method_3_code 16 = .ok (.lstore_n 3, 1) := by decide +kernel
theorem d2_17 : decode prog_48_method_3_code 17 = .ok (.iinc 5 1, 3) := by decide +kernel
theorem d2_20 : decode prog_48_method_3_code 20 = .ok (.goto (-15), 3) := by decide +kernel
theorem d2_23 : decode prog_48_method_3_code 23 = .ok (.lload_n 0, 1) := by decide +kernel
theorem d2_24 : decode prog_48_method_3_code 24 = .ok (.ldc2_w 92, 3) := by decide +kernel
theorem d2_27 : decode prog_48_method_3_code 27 = .ok (.lload_n 3, 1) := by decide +kernel
theorem d2_28 : decode prog_48_method_3_code 28 = .ok (.ldiv, 1) := by decide +kernel
theorem d2_29 : decode prog_48_method_3_code 29 = .ok (.lcmp, 1) := by decide +kernel
theorem d2_30 : decode prog_48_method_3_code 30 = .ok (.ifCond .gt 9, 3) := by decide +kernel
theorem d2_33 : decode prog_48_method_3_code 33 = .ok (.lload_n 0, 1) := by decide +kernel
theorem d2_34 : decode prog_48_method_3_code 34 = .ok (.lload_n 3, 1) := by decide +kernel
theorem d2_35 : decode prog_48_method_3_code 35 = .ok (.lmul, 1) := by decide +kernel
theorem d2_36 : decode prog_48_method_3_code 36 = .ok (.goto 6, 3) := by decide +kernel
theorem d2_39 : decode prog_48_method_3_code 39 = .ok (.ldc2_w 54, 3) := by decide +kernel
theorem d2_42 : decode prog_48_method_3_code 42 = .ok (.lreturn, 1) := by decide +kernel
theorem pd0 : parseMethodDescriptor "(I)J" = some ⟨[.int], some .long⟩ := by decide +kernel
theorem pd1 : parseMethodDescriptor "(JI)J" = some ⟨[.long, .int], some .long⟩ := by decide +kernel
abbrev nm0 : MethodName := x
abbrev rm0 : Room := room_1
abbrev C0 (l : Launch) (Z : State) (a0 : Array Value) (n0 : Nat) := Wp.Con l Z a0 n0 nm0 code maxLocals ret rm0
abbrev W0 (l : Launch) (Z : State) (a0 : Array Value) (n0 : Nat) := Wp.WP l Z a0 n0 rm0 nm0 code maxLocals ret
theorem pn0 : plainFor nm0 = true := by first | exact plainFor_of_name (by first | (simp [plainName, overriddenIn, nm0, x]; done) | decide +kernel) | decide +kernel
theorem ef0 (m : MethodId) (x0 : Int64) (x1 : Int32) : entryFrame m #[(.long x0), (.int x1)] maxLocals = mkF m 0 ⟨[.val (.long x0), .second, .val (.int x1), .unset, .unset, .unset, .unset, .unset, .unset, .unset, .unset, .unset]⟩ [] := by first | exact (Wp.efG m [(.long x0), (.int x1)] maxLocals).trans rfl | (simp [entryFrame, mkF, argsToLocals, Value.category, maxLocals]; done)
abbrev nm1 : MethodName := ⟨"com/example/tick6/tick6/rating/TariffUnitsPinLaw", "unitOf", "(I)J"⟩
abbrev rm1 : Room := { frames := 0, cells := 0, slots := 0, locals := 0 }
abbrev C1 (l : Launch) (Z : State) (a0 : Array Value) (n0 : Nat) := Wp.Con l Z a0 n0 nm1 method_2_code 1 (some .long) rm1
abbrev W1 (l : Launch) (Z : State) (a0 : Array Value) (n0 : Nat) := Wp.WP l Z a0 n0 rm1 nm1 method_2_code 1 (some .long)
theorem pn1 : plainFor nm1 = true := by first | exact plainFor_of_name (by first | (simp [plainName, overriddenIn, nm1, x]; done) | decide +kernel) | decide +kernel
theorem ef1 (m : MethodId) (x0 : Int32) : entryFrame m #[(.int x0)] 1 = mkF m 0 ⟨[.val (.int x0)]⟩ [] := by first | exact (Wp.efG m [(.int x0)] 1).trans rfl | (simp [entryFrame, mkF, argsToLocals, Value.category]; done)
abbrev nm2 : MethodName := ⟨"com/example/tick6/tick6/rating/Tariff", "units", "(JI)J"⟩
abbrev rm2 : Room := { frames := 0, cells := 0, slots := 0, locals := 0 }
abbrev C2 (l : Launch) (Z : State) (a0 : Array Value) (n0 : Nat) := Wp.Con l Z a0 n0 nm2 prog_48_method_3_code 6 (some .long) rm2
abbrev W2 (l : Launch) (Z : State) (a0 : Array Value) (n0 : Nat) := Wp.WP l Z a0 n0 rm2 nm2 prog_48_method_3_code 6 (some .long)
theorem pn2 : plainFor nm2 = true := by first | exact plainFor_of_name (by first | (simp [plainName, overriddenIn, nm2, x]; done) | decide +kernel) | decide +kernel
theorem ef2 (m : MethodId) (x0 : Int64) (x1 : Int32) : entryFrame m #[(.long x0), (.int x1)] 6 = mkF m 0 ⟨[.val (.long x0), .second, .val (.int x1), .unset, .unset, .unset]⟩ [] := by first | exact (Wp.efG m [(.long x0), (.int x1)] 6).trans rfl | (simp [entryFrame, mkF, argsToLocals, Value.category]; done)
set_option maxRecDepth 65536
def own_unit (k : Int32) : Int64 := if k = 0 then 10000 else if k = 1 then 1000 else if k = 2 then 100 else if k = 3 then 10 else 1
def own_res (u f : Int64) : Int64 := if (2147483647 / f : Int64).toInt < u.toInt then -1 else u * f
theorem con1 {l : Launch} {Z : State} {a0 : Array Value} {n0 : Nat} (hw : Hw Z a0) (k : Int32) (H : Wp.MH) :
    C1 l Z a0 n0 #[.int k] H (fun v H' => v = some (.long (own_unit k)) ∧ H' = H) := by
  refine Wp.Con.intro pn1 (fun m => ef1 m k) ?_
  refine Wp.iloadN (pc' := 1) d1_0 rfl rfl ?_
  refine Wp.if_ne (pt := 8) (pf := 4) d1_1 (by decide) rfl (fun hc1 => ?_) (fun hc1 => ?_)
  · refine Wp.iloadN (pc' := 9) d1_8 rfl rfl ?_
    refine Wp.iconst (1) (pc' := 10) d1_9 rfl rfl ?_
    refine Wp.icmp_ne (pt := 17) (pf := 13) d1_10 (by decide) rfl (fun hc10 => ?_) (fun hc10 => ?_)
    · refine Wp.iloadN (pc' := 18) d1_17 rfl rfl ?_
      refine Wp.iconst (2) (pc' := 19) d1_18 rfl rfl ?_
      refine Wp.icmp_ne (pt := 26) (pf := 22) d1_19 (by decide) rfl (fun hc19 => ?_) (fun hc19 => ?_)
      · refine Wp.iloadN (pc' := 27) d1_26 rfl rfl ?_
        refine Wp.iconst (3) (pc' := 28) d1_27 rfl rfl ?_
        refine Wp.icmp_ne (pt := 35) (pf := 31) d1_28 (by decide) rfl (fun hc28 => ?_) (fun hc28 => ?_)
        · refine Wp.lconst (1) (pc' := 36) d1_35 rfl rfl ?_
          refine Wp.lreturn rfl d1_36 ?_
          refine ⟨?_, rfl⟩
          unfold own_unit
          simp [hc1, hc10, hc19, hc28]
        · refine Wp.ldcL (pc' := 34) (w16 hw) d1_31 rfl ?_
          refine Wp.lreturn rfl d1_34 ?_
          refine ⟨?_, rfl⟩
          unfold own_unit
          simp [hc1, hc10, hc19, hc28]
      · refine Wp.ldcL (pc' := 25) (w6 hw) d1_22 rfl ?_
        refine Wp.lreturn rfl d1_25 ?_
        refine ⟨?_, rfl⟩
        unfold own_unit
        simp [hc1, hc10, hc19]
    · refine Wp.ldcL (pc' := 16) (w17 hw) d1_13 rfl ?_
      refine Wp.lreturn rfl d1_16 ?_
      refine ⟨?_, rfl⟩
      unfold own_unit
      simp [hc1, hc10]
  · refine Wp.ldcL (pc' := 7) (w18 hw) d1_4 rfl ?_
    refine Wp.lreturn rfl d1_7 ?_
    refine ⟨?_, rfl⟩
    unfold own_unit
    simp [hc1]
theorem con2 {l : Launch} {Z : State} {a0 : Array Value} {n0 : Nat} (hw : Hw Z a0) (u : Int64) (k : Int32) (hk : k = 0 ∨ k = 1 ∨ k = 2 ∨ k = 3 ∨ k = 4) (H : Wp.MH) :
    C2 l Z a0 n0 #[.long u, .int k] H (fun v H' => v = some (.long (own_res u (own_unit k))) ∧ H' = H) := by
  refine Wp.Con.intro pn2 (fun m => ef2 m u k) ?_
  generalize hR : own_res u (own_unit k) = r
  generalize hQ : (fun (v : Option Value) (H' : Wp.MH) => v = some (.long r) ∧ H' = H) = Q
  have K4 : ∀ (f : Int64), f ≠ 0 → own_res u f = r → W2 l Z a0 n0 0 0 5 [.val (.long u), .second, .val (.int k), .val (.long f), .second, .val (.int 4)] [] H Q := by
    intro f hf hr
    refine Wp.iload (pc' := 7) d2_5 rfl rfl ?_
    refine Wp.iconst (4) (pc' := 8) d2_7 rfl rfl ?_
    refine Wp.icmp_ge (pt := 23) (pf := 11) d2_8 (by decide) rfl (fun hc8 => ?_) (fun hc8 => absurd hc8 (by decide))
    refine Wp.lloadN (pc' := 24) d2_23 rfl rfl ?_
    refine Wp.ldcL (pc' := 27) (w13 hw) d2_24 rfl ?_
    refine Wp.lloadN (pc' := 28) d2_27 rfl rfl ?_
    refine Wp.ldiv (pc' := 29) d2_28 hf rfl ?_
    refine Wp.lcmp_gt (pt := 39) (pf := 33) d2_29 rfl d2_30 (by decide) rfl (fun hc30 => ?_) (fun hc30 => ?_)
    · refine Wp.ldcL (pc' := 42) (w15 hw) d2_39 rfl ?_
      refine Wp.lreturn rfl d2_42 ?_
      subst hQ; refine ⟨?_, rfl⟩; rw [← hr]; unfold own_res; first | rw [if_pos hc30] | rw [if_neg (by omega)]
    · refine Wp.lloadN (pc' := 34) d2_33 rfl rfl ?_
      refine Wp.lloadN (pc' := 35) d2_34 rfl rfl ?_
      refine Wp.lmul (pc' := 36) d2_35 rfl ?_
      refine Wp.goto (pc' := 42) d2_36 (by decide) ?_
      refine Wp.lreturn rfl d2_42 ?_
      subst hQ; refine ⟨?_, rfl⟩; rw [← hr]; unfold own_res; first | rw [if_pos hc30] | rw [if_neg (by omega)]
  have K3 : ∀ (f : Int64), f * 10 ≠ 0 → own_res u (f * 10) = r → W2 l Z a0 n0 0 0 5 [.val (.long u), .second, .val (.int k), .val (.long f), .second, .val (.int 3)] [] H Q := by
    intro f hf hr
    refine Wp.iload (pc' := 7) d2_5 rfl rfl ?_
    refine Wp.iconst (4) (pc' := 8) d2_7 rfl rfl ?_
    refine Wp.icmp_ge (pt := 23) (pf := 11) d2_8 (by decide) rfl (fun hc8 => absurd hc8 (by decide)) (fun hc8 => ?_)
    refine Wp.lloadN (pc' := 12) d2_11 rfl rfl ?_
    refine Wp.ldcL (pc' := 15) (w12 hw) d2_12 rfl ?_
    refine Wp.lmul (pc' := 16) d2_15 rfl ?_
    refine Wp.lstoreN_3 (pc' := 17) d2_16 rfl rfl ?_
    refine Wp.iinc_5 (1) (pc' := 20) d2_17 rfl rfl ?_
    refine Wp.goto (pc' := 5) d2_20 (by decide) ?_
    exact K4 _ hf hr
  have K2 : ∀ (f : Int64), f * 10 * 10 ≠ 0 → own_res u (f * 10 * 10) = r → W2 l Z a0 n0 0 0 5 [.val (.long u), .second, .val (.int k), .val (.long f), .second, .val (.int 2)] [] H Q := by
    intro f hf hr
    refine Wp.iload (pc' := 7) d2_5 rfl rfl ?_
    refine Wp.iconst (4) (pc' := 8) d2_7 rfl rfl ?_
    refine Wp.icmp_ge (pt := 23) (pf := 11) d2_8 (by decide) rfl (fun hc8 => absurd hc8 (by decide)) (fun hc8 => ?_)
    refine Wp.lloadN (pc' := 12) d2_11 rfl rfl ?_
    refine Wp.ldcL (pc' := 15) (w12 hw) d2_12 rfl ?_
    refine Wp.lmul (pc' := 16) d2_15 rfl ?_
    refine Wp.lstoreN_3 (pc' := 17) d2_16 rfl rfl ?_
    refine Wp.iinc_5 (1) (pc' := 20) d2_17 rfl rfl ?_
    refine Wp.goto (pc' := 5) d2_20 (by decide) ?_
    exact K3 _ hf hr
  have K1 : ∀ (f : Int64), f * 10 * 10 * 10 ≠ 0 → own_res u (f * 10 * 10 * 10) = r → W2 l Z a0 n0 0 0 5 [.val (.long u), .second, .val (.int k), .val (.long f), .second, .val (.int 1)] [] H Q := by
    intro f hf hr
    refine Wp.iload (pc' := 7) d2_5 rfl rfl ?_
    refine Wp.iconst (4) (pc' := 8) d2_7 rfl rfl ?_
    refine Wp.icmp_ge (pt := 23) (pf := 11) d2_8 (by decide) rfl (fun hc8 => absurd hc8 (by decide)) (fun hc8 => ?_)
    refine Wp.lloadN (pc' := 12) d2_11 rfl rfl ?_
    refine Wp.ldcL (pc' := 15) (w12 hw) d2_12 rfl ?_
    refine Wp.lmul (pc' := 16) d2_15 rfl ?_
    refine Wp.lstoreN_3 (pc' := 17) d2_16 rfl rfl ?_
    refine Wp.iinc_5 (1) (pc' := 20) d2_17 rfl rfl ?_
    refine Wp.goto (pc' := 5) d2_20 (by decide) ?_
    exact K2 _ hf hr
  have K0 : ∀ (f : Int64), f * 10 * 10 * 10 * 10 ≠ 0 → own_res u (f * 10 * 10 * 10 * 10) = r → W2 l Z a0 n0 0 0 5 [.val (.long u), .second, .val (.int k), .val (.long f), .second, .val (.int 0)] [] H Q := by
    intro f hf hr
    refine Wp.iload (pc' := 7) d2_5 rfl rfl ?_
    refine Wp.iconst (4) (pc' := 8) d2_7 rfl rfl ?_
    refine Wp.icmp_ge (pt := 23) (pf := 11) d2_8 (by decide) rfl (fun hc8 => absurd hc8 (by decide)) (fun hc8 => ?_)
    refine Wp.lloadN (pc' := 12) d2_11 rfl rfl ?_
    refine Wp.ldcL (pc' := 15) (w12 hw) d2_12 rfl ?_
    refine Wp.lmul (pc' := 16) d2_15 rfl ?_
    refine Wp.lstoreN_3 (pc' := 17) d2_16 rfl rfl ?_
    refine Wp.iinc_5 (1) (pc' := 20) d2_17 rfl rfl ?_
    refine Wp.goto (pc' := 5) d2_20 (by decide) ?_
    exact K1 _ hf hr
  refine Wp.lconst (1) (pc' := 1) d2_0 rfl rfl ?_
  refine Wp.lstoreN_3 (pc' := 2) d2_1 rfl rfl ?_
  refine Wp.iloadN (pc' := 3) d2_2 rfl rfl ?_
  refine Wp.istore_5 (pc' := 5) d2_3 rfl rfl ?_
  subst hR; rcases hk with rfl | rfl | rfl | rfl | rfl
  · exact K0 1 (by decide) rfl
  · exact K1 1 (by decide) rfl
  · exact K2 1 (by decide) rfl
  · exact K3 1 (by decide) rfl
  · exact K4 1 (by decide) rfl
theorem own_mul (u f : Int64) (h : 0 ≤ u.toInt ∧ u.toInt ≤ 2147483647 ∧ 0 ≤ f.toInt ∧ f.toInt ≤ 10000) : (u * f).toInt = u.toInt * f.toInt := by
  have h1 := c_lmul u f
  have h2 := rng64 (u * f)
  have h3 : 0 ≤ u.toInt * f.toInt := Int.mul_nonneg h.1 h.2.2.1
  have h4 : u.toInt * f.toInt ≤ 2147483647 * 10000 := Int.mul_le_mul h.2.1 h.2.2.2 h.2.2.1 (by decide)
  omega
theorem own_fin (u : Int64) (k : Int32) (hu : 0 ≤ u.toInt) (hk : k = 0 ∨ k = 1 ∨ k = 2 ∨ k = 3 ∨ k = 4) :
    own_res u (own_unit k) = if 2147483647 < u.toInt then -1 else if (u * own_unit k).toInt ≤ 2147483647 then u * own_unit k else -1 := by
  have main : ∀ f : Int64, f = 10000 ∨ f = 1000 ∨ f = 100 ∨ f = 10 ∨ f = 1 → own_res u f = if 2147483647 < u.toInt then -1 else if (u * f).toInt ≤ 2147483647 then u * f else -1 := by
    intro f hf
    have hdiv : (2147483647 / f : Int64).toInt ≤ 2147483647 := by rcases hf with rfl | rfl | rfl | rfl | rfl <;> decide
    unfold own_res
    by_cases h1 : 2147483647 < u.toInt
    · rw [if_pos h1, if_pos (by omega)]
    · rw [if_neg h1]
      have hm := own_mul u f ⟨hu, by omega, by rcases hf with rfl | rfl | rfl | rfl | rfl <;> decide, by rcases hf with rfl | rfl | rfl | rfl | rfl <;> decide⟩
      have hiff : (2147483647 / f : Int64).toInt < u.toInt ↔ ¬ (u * f).toInt ≤ 2147483647 := by
        rw [hm]
        rcases hf with rfl | rfl | rfl | rfl | rfl
        · rw [show (2147483647 / 10000 : Int64).toInt = 214748 by decide, show (10000 : Int64).toInt = 10000 by decide]; omega
        · rw [show (2147483647 / 1000 : Int64).toInt = 2147483 by decide, show (1000 : Int64).toInt = 1000 by decide]; omega
        · rw [show (2147483647 / 100 : Int64).toInt = 21474836 by decide, show (100 : Int64).toInt = 100 by decide]; omega
        · rw [show (2147483647 / 10 : Int64).toInt = 214748364 by decide, show (10 : Int64).toInt = 10 by decide]; omega
        · rw [show (2147483647 / 1 : Int64).toInt = 2147483647 by decide, show (1 : Int64).toInt = 1 by decide]; omega
      by_cases h2 : (u * f).toInt ≤ 2147483647
      · rw [if_neg (fun q => hiff.mp q h2), if_pos h2]
      · rw [if_pos (hiff.mpr h2), if_neg h2]
  apply main
  rcases hk with rfl | rfl | rfl | rfl | rfl
  · exact Or.inl rfl
  · exact Or.inr (Or.inl rfl)
  · exact Or.inr (Or.inr (Or.inl rfl))
  · exact Or.inr (Or.inr (Or.inr (Or.inl rfl)))
  · exact Or.inr (Or.inr (Or.inr (Or.inr rfl)))
theorem law_con (l : Launch) (Z : State) (a0 : Array Value) (n0 : Nat) (hw : Hw Z a0) (u : Int64) (s : Int32) :
    C0 l Z a0 n0 #[.long u, .int s] [] (fun v _ => v = some (.int 1)) := by
  refine Wp.Con.intro pn0 (fun m => ef0 m u s) ?_
  have hu : (u &&& 9223372036854775807).toInt = u.toInt % (2 ^ 63 : Nat) := c_maskL u _ 63 (by decide) (by decide)
  have hm : (s &&& 2147483647).toInt = s.toInt % (2 ^ 31 : Nat) := c_mask s _ 31 (by decide) (by decide)
  have hr := (c_irem (s &&& 2147483647) 5 5 (by decide)).1 (by omega)
  have hk : (s &&& 2147483647) % 5 = 0 ∨ (s &&& 2147483647) % 5 = 1 ∨ (s &&& 2147483647) % 5 = 2 ∨ (s &&& 2147483647) % 5 = 3 ∨ (s &&& 2147483647) % 5 = 4 := by
    simp only [← Int32.toInt_inj, Int32.reduceToInt]; omega
  have hfin := own_fin (u &&& 9223372036854775807) _ (by omega) hk
  refine Wp.lloadN (pc' := 1) at_0 rfl rfl ?_
  refine Wp.ldcL (pc' := 4) (w0 hw) at_1 rfl ?_
  refine Wp.land (pc' := 5) at_4 rfl ?_
  refine Wp.lstoreN_3 (pc' := 6) at_5 rfl rfl ?_
  refine Wp.iloadN (pc' := 7) at_6 rfl rfl ?_
  refine Wp.ldcI (pc' := 9) (w1 hw) at_7 rfl ?_
  refine Wp.iand (pc' := 10) at_9 rfl ?_
  refine Wp.iconst (5) (pc' := 11) at_10 rfl rfl ?_
  refine Wp.irem (pc' := 12) at_11 (by decide) rfl ?_
  refine Wp.istore_5 (pc' := 14) at_12 rfl rfl ?_
  refine Wp.iload (pc' := 16) at_14 rfl rfl ?_
  refine Wp.callS_1 0 (pc' := 19) (rm := rm1) (w2 hw) (w3 hw) (w4 hw) (w5 hw) (by decide) pd0 rfl at_16 rfl rfl (by decide) (by decide) (by decide) (by decide) rfl rfl rfl ?_
  refine (con1 hw _ _).mono ?_
  rintro _ _ ⟨rfl, rfl⟩
  refine Wp.afterS ?_
  refine Wp.lstore_6 (pc' := 21) at_19 rfl rfl ?_
  refine Wp.lloadN (pc' := 22) at_21 rfl rfl ?_
  refine Wp.ldcL (pc' := 25) (w7 hw) at_22 rfl ?_
  refine Wp.lcmp_le (pt := 37) (pf := 29) at_25 rfl at_26 (by decide) rfl (fun hc26 => ?_) (fun hc26 => ?_)
  · refine Wp.lloadN (pc' := 38) at_37 rfl rfl ?_
    refine Wp.lload (pc' := 40) at_38 rfl rfl ?_
    refine Wp.lmul (pc' := 41) at_40 rfl ?_
    refine Wp.lstore_10 (pc' := 43) at_41 rfl rfl ?_
    refine Wp.lload (pc' := 45) at_43 rfl rfl ?_
    refine Wp.ldcL (pc' := 48) (w7 hw) at_45 rfl ?_
    refine Wp.lcmp_gt (pt := 57) (pf := 52) at_48 rfl at_49 (by decide) rfl (fun hc49 => ?_) (fun hc49 => ?_)
    · refine Wp.ldcL (pc' := 60) (w14 hw) at_57 rfl ?_
      refine Wp.lstore_8 (pc' := 62) at_60 rfl rfl ?_
      refine Wp.lloadN (pc' := 63) at_62 rfl rfl ?_
      refine Wp.iload (pc' := 65) at_63 rfl rfl ?_
      refine Wp.callS_2 0 (pc' := 68) (rm := rm2) (w8 hw) (w9 hw) (w10 hw) (w11 hw) (by decide) pd1 rfl at_65 rfl rfl (by decide) (by decide) (by decide) (by decide) rfl rfl rfl ?_
      refine (con2 hw _ _ hk _).mono ?_
      rintro _ _ ⟨rfl, rfl⟩
      refine Wp.afterS ?_
      refine Wp.lload (pc' := 70) at_68 rfl rfl ?_
      refine Wp.lcmp_ne (pt := 78) (pf := 74) at_70 rfl at_71 (by decide) rfl (fun hc71 => ?_) (fun hc71 => ?_)
      · refine Wp.iconst (0) (pc' := 79) at_78 rfl rfl ?_
        refine Wp.zreturn rfl at_79 ?_
        first | rfl | (exfalso; apply hc71; rw [hfin]; simp only [Int64.reduceToInt] at hc26; first | rw [if_pos hc26] | (simp only [Int64.reduceToInt] at hc49; rw [if_neg (by omega)]; first | rw [if_pos hc49] | rw [if_neg (by omega)]))
      · refine Wp.iconst (1) (pc' := 75) at_74 rfl rfl ?_
        refine Wp.goto (pc' := 79) at_75 (by decide) ?_
        refine Wp.zreturn rfl at_79 ?_
        first | rfl | (exfalso; apply hc71; rw [hfin]; simp only [Int64.reduceToInt] at hc26; first | rw [if_pos hc26] | (simp only [Int64.reduceToInt] at hc49; rw [if_neg (by omega)]; first | rw [if_pos hc49] | rw [if_neg (by omega)]))
    · refine Wp.lload (pc' := 54) at_52 rfl rfl ?_
      refine Wp.goto (pc' := 60) at_54 (by decide) ?_
      refine Wp.lstore_8 (pc' := 62) at_60 rfl rfl ?_
      refine Wp.lloadN (pc' := 63) at_62 rfl rfl ?_
      refine Wp.iload (pc' := 65) at_63 rfl rfl ?_
      refine Wp.callS_2 0 (pc' := 68) (rm := rm2) (w8 hw) (w9 hw) (w10 hw) (w11 hw) (by decide) pd1 rfl at_65 rfl rfl (by decide) (by decide) (by decide) (by decide) rfl rfl rfl ?_
      refine (con2 hw _ _ hk _).mono ?_
      rintro _ _ ⟨rfl, rfl⟩
      refine Wp.afterS ?_
      refine Wp.lload (pc' := 70) at_68 rfl rfl ?_
      refine Wp.lcmp_ne (pt := 78) (pf := 74) at_70 rfl at_71 (by decide) rfl (fun hc71 => ?_) (fun hc71 => ?_)
      · refine Wp.iconst (0) (pc' := 79) at_78 rfl rfl ?_
        refine Wp.zreturn rfl at_79 ?_
        first | rfl | (exfalso; apply hc71; rw [hfin]; simp only [Int64.reduceToInt] at hc26; first | rw [if_pos hc26] | (simp only [Int64.reduceToInt] at hc49; rw [if_neg (by omega)]; first | rw [if_pos hc49] | rw [if_neg (by omega)]))
      · refine Wp.iconst (1) (pc' := 75) at_74 rfl rfl ?_
        refine Wp.goto (pc' := 79) at_75 (by decide) ?_
        refine Wp.zreturn rfl at_79 ?_
        first | rfl | (exfalso; apply hc71; rw [hfin]; simp only [Int64.reduceToInt] at hc26; first | rw [if_pos hc26] | (simp only [Int64.reduceToInt] at hc49; rw [if_neg (by omega)]; first | rw [if_pos hc49] | rw [if_neg (by omega)]))
  · refine Wp.ldcL (pc' := 32) (w14 hw) at_29 rfl ?_
    refine Wp.lstore_8 (pc' := 34) at_32 rfl rfl ?_
    refine Wp.goto (pc' := 62) at_34 (by decide) ?_
    refine Wp.lloadN (pc' := 63) at_62 rfl rfl ?_
    refine Wp.iload (pc' := 65) at_63 rfl rfl ?_
    refine Wp.callS_2 0 (pc' := 68) (rm := rm2) (w8 hw) (w9 hw) (w10 hw) (w11 hw) (by decide) pd1 rfl at_65 rfl rfl (by decide) (by decide) (by decide) (by decide) rfl rfl rfl ?_
    refine (con2 hw _ _ hk _).mono ?_
    rintro _ _ ⟨rfl, rfl⟩
    refine Wp.afterS ?_
    refine Wp.lload (pc' := 70) at_68 rfl rfl ?_
    refine Wp.lcmp_ne (pt := 78) (pf := 74) at_70 rfl at_71 (by decide) rfl (fun hc71 => ?_) (fun hc71 => ?_)
    · refine Wp.iconst (0) (pc' := 79) at_78 rfl rfl ?_
      refine Wp.zreturn rfl at_79 ?_
      first | rfl | (exfalso; apply hc71; rw [hfin]; simp only [Int64.reduceToInt] at hc26; first | rw [if_pos hc26] | (simp only [Int64.reduceToInt] at hc49; rw [if_neg (by omega)]; first | rw [if_pos hc49] | rw [if_neg (by omega)]))
    · refine Wp.iconst (1) (pc' := 75) at_74 rfl rfl ?_
      refine Wp.goto (pc' := 79) at_75 (by decide) ?_
      refine Wp.zreturn rfl at_79 ?_
      first | rfl | (exfalso; apply hc71; rw [hfin]; simp only [Int64.reduceToInt] at hc26; first | rw [if_pos hc26] | (simp only [Int64.reduceToInt] at hc49; rw [if_neg (by omega)]; first | rw [if_pos hc49] | rw [if_neg (by omega)]))
set_option maxRecDepth 65536 in
theorem comes_1 {Post : Tables → Env → Array Value → State → Outcome → State → Prop} (hpost : ∀ tb e args s v u, (limb_1_1.after args s (.returned v) u = true ∧ limb_1_2.after args s (.returned v) u = true ∧ True) → FrameEnd s (.returned v) u (Jvm.fieldLocs frame_1_writes args s ++ Jvm.arrayLocs frame_1_arrays args s ++ Jvm.staticLocs frame_1_statics s) room_1.cells room_1.slots → Post tb e args s (.returned v) u) :
    ArmFor flags0 classFile x code maxLocals ret World_1 tables_1 room_1 Calls_1 rest_1 Pre_1 Post := by
  intro l hfl _ _ p e ha hc hk s m args below hf hA hF happ hP
  obtain ⟨hcalls, hrest, hpre⟩ := hP
  obtain ⟨-, -, -, hnamed, -, -, -, hat⟩ := (Spec.applies_iff hf).mp happ
  obtain ⟨hg, hn⟩ := and_e (Cond.before_iff.mp (show (Jvm.Cond.and given_1 narrow_1).before args s = true from hpre))
  obtain ⟨hcnt, g0⟩ := and_e hg
  obtain ⟨y0, y1, rfl⟩ : ∃ y0 y1 : Value, args = #[y0, y1] := by
    have hs : args.size = 2 := by simpa [Cond.value, given_1] using hcnt
    obtain ⟨L⟩ := args
    match L, hs with
    | [y0, y1], _ => exact ⟨y0, y1, rfl⟩
  have hw := fun d (hd : d ∈ tables_1) => atoms_spec (ws := Jvm.Cond.code x code maxLocals ret :: tables_1) hat d (List.mem_cons_of_mem _ hd)
  obtain ⟨g0a, g1⟩ := and_e g0
  obtain ⟨i0, e0⟩ := isL_v g0a
  obtain rfl : y0 = .long i0 := Option.some.inj e0
  obtain ⟨i1, e1⟩ := is_v g1
  obtain rfl : y1 = .int i1 := Option.some.inj e1
  obtain ⟨n, o, h1, h2, h3, v, L, rfl, ⟨N, H', hR', rfl⟩, hq⟩ := law_con l s _ s.heap.size hw i0 i1 tables_1 s.heap ⟨Nat.le_refl _, List.nodup_nil, fun _ q => nomatch q⟩ p e ha hc hk s m _ below hf ((Spec.applies_iff_loose hf).mp happ).1 ⟨rfl, State.Warmed39.refl s, rfl⟩ trivial
  refine ⟨n, _, h1, h2, h3, hpost _ _ _ _ _ _ ⟨Cond.after_iff.mpr rfl, Cond.after_iff.mpr (eq_i res_at (Term.int_eval (1)) rfl), trivial⟩ ⟨hq.1, hq.2.1, (hq.2.2.sift fun y hy => Or.inr (N y hy)).mono (by decide) (by decide)⟩⟩
theorem main_1_1 : Claimed_1_1 := comes_1 fun _ _ _ _ _ _ h hF => ⟨h.1, hF⟩
theorem main_1_2 : Claimed_1_2 := comes_1 fun _ _ _ _ _ _ h hF => ⟨h.2.1, hF⟩
end Jvm.Pilot.@@N@@
namespace Jvm.Pilot.@@N@@
open Jvm Jvm.ClassFile Sem Op Lib Jvm.Free Jvm.Stand Jvm.Pilot.@@N@@.Jvm.D
/-! MADE BY PROGRAM (witnessworld.py) out of the Statement's table words and the real class files: 9 classes; the members and pool entries that the words name. The judged class is class 1, her method 2. -/
namespace start1
open Jvm.ClassFile
def u (s : String) : CpInfo := .utf8 (stringToUtf16 s)
/-- a pool by its gaps: so many unusable entries, then the entry; so many at the end -/
def gap : Nat → List CpInfo → List CpInfo
  | 0, r => r
  | n + 1, r => .unusable :: gap n r
def poolList (es : List (Nat × CpInfo)) (last : Nat) : List CpInfo := es.foldr (fun e r => gap e.1 (e.2 :: r)) (gap last [])
def pool (es : List (Nat × CpInfo)) (last : Nat) : Array CpInfo := ⟨poolList es last⟩
def fileOf (pool : Array CpInfo) (this : Nat) (attrs : Array Attribute := #[]) (ms : Array MethodInfo := #[]) (fl : Nat := 33) (sup : Nat := 0) (ifs : Array Nat := #[]) (fds : Array FieldInfo := #[]) : ClassFile where
  minorVersion := 0
  majorVersion := 65
  constantPool := pool
  accessFlags := fl
  thisClass := this
  superClass := sup
  interfaces := ifs
  fields := fds
  methods := ms
  attributes := attrs
def plain (name : String) (sup : Option ClassId) : Class where
  name := name
  kind := .ordinary
  loader := none
  accessFlags := 33
  super := sup
  interfaces := #[]
  cf := none
  fields := #[]
  methods := #[]
  instanceTypes := #[]
  staticTypes := #[]
  resolved := #[]
  callSites := []
  init := .initialized
  statics := none
  mirror := none

def pool0 : Array CpInfo := pool [(5, u "<init>"), (0, u "()V"), (1, .class_ 10), (1, u "java/lang/Object")] 113

def k0m0 : Method := { name := "<init>", desc := "()V", sig := { parameters := [], returnType := none }, accessFlags := 1, code := none }
/-- java/lang/Object -/
def k0 : Class := { plain "java/lang/Object" none with
  accessFlags := 33
  interfaces := #[]
  cf := some (fileOf pool0 8 #[] #[{ accessFlags := 1, nameIndex := 5, descriptorIndex := 6, attributes := #[] }] 33 0 #[] #[])
  fields := #[]
  methods := #[k0m0]
  instanceTypes := #[]
  staticTypes := #[]
  resolved := Array.replicate 124 none
  statics := none }

def pool1 : Array CpInfo := pool [(2, .class_ 4), (1, u "java/lang/Object"), (0, u "<init>"), (0, u "()V"), (0, .long 10000), (1, .long 1000), (1, .long 100), (1, .long 10), (3, .long 9223372036854775807), (1, .integer 2147483647), (0, .methodref 21 22), (0, .class_ 23), (0, .nameAndType 24 25), (0, u "com/example/tick6/tick6/rating/TariffUnitsPinLaw"), (0, u "unitOf"), (0, u "(I)J"), (0, .long 2147483647), (1, .long 18446744073709551615), (1, .methodref 31 32), (0, .class_ 33), (0, .nameAndType 34 35), (0, u "com/example/tick6/tick6/rating/Tariff"), (0, u "units"), (0, u "(JI)J"), (3, u "law"), (0, u "(JI)Z")] 2

def k1m0 : Method := { name := "<init>", desc := "()V", sig := { parameters := [], returnType := none }, accessFlags := 1, code := none }
def k1c1 : Code := { maxStack := 2, maxLocals := 1, code := method_2_code, exceptionTable := #[], attributes := #[] }
def k1m1 : Method := { name := "unitOf", desc := "(I)J", sig := { parameters := [.int], returnType := some .long }, accessFlags := 10, code := some k1c1 }
def k1c2 : Code := { maxStack := 4, maxLocals := 12, code := code, exceptionTable := #[], attributes := #[] }
def k1m2 : Method := { name := "law", desc := "(JI)Z", sig := { parameters := [.long, .int], returnType := some .boolean }, accessFlags := 9, code := some k1c2 }
/-- com/example/tick6/tick6/rating/TariffUnitsPinLaw -/
def k1 : Class := { plain "com/example/tick6/tick6/rating/TariffUnitsPinLaw" (some 0) with
  accessFlags := 49
  interfaces := #[]
  cf := some (fileOf pool1 21 #[] #[{ accessFlags := 1, nameIndex := 5, descriptorIndex := 6, attributes := #[] }, { accessFlags := 10, nameIndex := 24, descriptorIndex := 25, attributes := #[] }, { accessFlags := 9, nameIndex := 39, descriptorIndex := 40, attributes := #[] }] 49 2 #[] #[])
  fields := #[]
  methods := #[k1m0, k1m1, k1m2]
  instanceTypes := #[]
  staticTypes := #[]
  resolved := Array.replicate 43 none
  statics := none }

def pool2 : Array CpInfo := pool [(4, .class_ 6), (1, u "java/lang/Object"), (3, u "pricePerMinute"), (7, u "setupFee"), (18, .class_ 39), (1, u "com/example/tick6/tick6/rating/Tariff"), (0, u "Ljava/math/BigDecimal;"), (4, u "minimumSeconds"), (0, u "I"), (2, u "incrementSeconds"), (2, u "units"), (1, .long 18446744073709551615), (3, u "priceUnits"), (0, u "J"), (2, u "setupFeeUnits"), (11, u "WHOLE_AMOUNT_LIMIT"), (15, .long 10), (1, .long 2147483647), (45, u "SECONDS_PER_MINUTE"), (34, u "PRICE_SCALE"), (2, u "NOT_IN_UNITS"), (0, u "WHOLE_TERMS_LIMIT"), (4, u "(JI)J")] 8

def k2c0 : Code := { maxStack := 6, maxLocals := 6, code := prog_48_method_3_code, exceptionTable := #[], attributes := #[] }
def k2m0 : Method := { name := "units", desc := "(JI)J", sig := { parameters := [.long, .int], returnType := some .long }, accessFlags := 8, code := some k2c0 }
/-- com/example/tick6/tick6/rating/Tariff -/
def k2 : Class := { plain "com/example/tick6/tick6/rating/Tariff" (some 0) with
  accessFlags := 49
  interfaces := #[]
  cf := some (fileOf pool2 37 #[] #[{ accessFlags := 8, nameIndex := 52, descriptorIndex := 182, attributes := #[] }] 49 4 #[] #[{ accessFlags := 25, nameIndex := 173, descriptorIndex := 46, attributes := #[] }, { accessFlags := 24, nameIndex := 176, descriptorIndex := 59, attributes := #[] }, { accessFlags := 26, nameIndex := 138, descriptorIndex := 40, attributes := #[] }, { accessFlags := 26, nameIndex := 177, descriptorIndex := 59, attributes := #[] }, { accessFlags := 26, nameIndex := 74, descriptorIndex := 40, attributes := #[] }, { accessFlags := 18, nameIndex := 10, descriptorIndex := 40, attributes := #[] }, { accessFlags := 18, nameIndex := 18, descriptorIndex := 40, attributes := #[] }, { accessFlags := 18, nameIndex := 45, descriptorIndex := 46, attributes := #[] }, { accessFlags := 18, nameIndex := 49, descriptorIndex := 46, attributes := #[] }, { accessFlags := 18, nameIndex := 58, descriptorIndex := 59, attributes := #[] }, { accessFlags := 18, nameIndex := 62, descriptorIndex := 59, attributes := #[] }])
  fields := #[{ name := "PRICE_SCALE", type := .int, accessFlags := 25, slot := 0, constantValue := 0 }, { name := "NOT_IN_UNITS", type := .long, accessFlags := 24, slot := 1, constantValue := 0 }, { name := "SECONDS_PER_MINUTE", type := (.object "java/math/BigDecimal"), accessFlags := 26, slot := 2, constantValue := 0 }, { name := "WHOLE_TERMS_LIMIT", type := .long, accessFlags := 26, slot := 3, constantValue := 0 }, { name := "WHOLE_AMOUNT_LIMIT", type := (.object "java/math/BigDecimal"), accessFlags := 26, slot := 4, constantValue := 0 }, { name := "pricePerMinute", type := (.object "java/math/BigDecimal"), accessFlags := 18, slot := 0, constantValue := 0 }, { name := "setupFee", type := (.object "java/math/BigDecimal"), accessFlags := 18, slot := 1, constantValue := 0 }, { name := "minimumSeconds", type := .int, accessFlags := 18, slot := 2, constantValue := 0 }, { name := "incrementSeconds", type := .int, accessFlags := 18, slot := 3, constantValue := 0 }, { name := "priceUnits", type := .long, accessFlags := 18, slot := 4, constantValue := 0 }, { name := "setupFeeUnits", type := .long, accessFlags := 18, slot := 5, constantValue := 0 }]
  methods := #[k2m0]
  instanceTypes := #[(.object "java/math/BigDecimal"), (.object "java/math/BigDecimal"), .int, .int, .long, .long]
  staticTypes := #[.int, .long, (.object "java/math/BigDecimal"), .long, (.object "java/math/BigDecimal")]
  resolved := Array.replicate 191 none
  statics := none }

def pool3 : Array CpInfo := pool [(1, u "java/lang/Cloneable"), (0, .class_ 1), (0, u "java/lang/Object"), (0, .class_ 3)] 3

/-- java/lang/Cloneable -/
def k3 : Class := { plain "java/lang/Cloneable" (some 0) with
  accessFlags := 1537
  interfaces := #[]
  cf := some (fileOf pool3 2 #[] #[] 1537 4 #[] #[])
  fields := #[]
  methods := #[]
  instanceTypes := #[]
  staticTypes := #[]
  resolved := Array.replicate 8 none
  statics := none }

def pool4 : Array CpInfo := pool [(1, u "java/io/Serializable"), (0, .class_ 1), (0, u "java/lang/Object"), (0, .class_ 3)] 3

/-- java/io/Serializable -/
def k4 : Class := { plain "java/io/Serializable" (some 0) with
  accessFlags := 1537
  interfaces := #[]
  cf := some (fileOf pool4 2 #[] #[] 1537 4 #[] #[])
  fields := #[]
  methods := #[]
  instanceTypes := #[]
  staticTypes := #[]
  resolved := Array.replicate 8 none
  statics := none }

/-- the primitive byte -/
def k5 : Class := { plain "byte" none with kind := .primitive 'B', accessFlags := 0x411 }
/-- [B -/
def k6 : Class := { plain "[B" (some 0) with kind := .array 5 .byte, interfaces := #[3, 4], accessFlags := 1041 }

/-- the primitive int -/
def k7 : Class := { plain "int" none with kind := .primitive 'I', accessFlags := 0x411 }
/-- [I -/
def k8 : Class := { plain "[I" (some 0) with kind := .array 7 .int, interfaces := #[3, 4], accessFlags := 1041 }

def heap : Heap := #[]
def classes : Array Class := #[k0, k1, k2, k3, k4, k5, k6, k7, k8]
def interned : List (Array UInt16 × Addr) := []
def slotsUsed : Nat := 0
def theMethod : MethodId := ⟨1, 2⟩
def args0 : Array Value := #[.long 5, .int 5]
def aboutOver (below : List Frame) : State where
  vm := { classes := classes, interned := interned.toArray }
  heap := heap
  slotsUsed := slotsUsed
  threads := #[{ frames := .invoking theMethod args0 :: below }]
def below0 : List Frame := [.native { method := ⟨0, 0⟩, args := #[] }]
def about1 : State := aboutOver below0
def p0 : Program := .bare "" "" ""
def e0 : Env := launch0.env 0 0 0
theorem w_frames : about1.frames = Frame.invoking theMethod args0 :: below0 := rfl
set_option maxRecDepth 65536 in
theorem w_args : argsFit about1.vm theMethod args0 = true := by decide +kernel
set_option maxRecDepth 65536 in
theorem w_heap : heapFits about1 = true := by decide +kernel
set_option maxRecDepth 65536 in
theorem w_runnable : about1.curStatus? = some .runnable := by decide +kernel
set_option maxRecDepth 65536 in
theorem w_alone : about1.alone = true := by decide +kernel
set_option maxRecDepth 65536 in
theorem w_named : about1.methodNamed? x = some theMethod := by decide +kernel
set_option maxRecDepth 65536 in
theorem w_hears : about1.hears theMethod below0 = true := by decide +kernel
set_option maxRecDepth 65536 in
theorem w_ripe : about1.ripe theMethod args0 below0 = true := by decide +kernel
theorem w_running : about1.status = .running := rfl
set_option maxRecDepth 65536 in
theorem w_room : about1.hasRoom e0.platform room_1 = true :=
  launch0.hasRoom_least _ room_1 (by decide +kernel) (by decide +kernel) (by decide +kernel) (by decide +kernel) (by decide +kernel) (by decide +kernel)
theorem allAtoms_all (ts : List Jvm.Cond) (a : Array Jvm.Value) (st : Jvm.State) : (allAtoms ts).before a st = ts.all (fun c => c.before a st) := by
  induction ts with
  | nil => rfl
  | cons c t ih =>
    show (Jvm.Cond.and c (allAtoms t)).before a st = _
    rw [Jvm.Cond.before_and, ih, List.all_cons]
def words1 : List Jvm.Cond := Jvm.Cond.code x code maxLocals ret :: tables_1
/-- a 'code' word, met by the world's own term for the bytes: nothing is compared byte by byte -/
theorem code_word {y : MethodName} {bytes : ByteArray} {mx : Nat} {rt : Option FieldType} {a : Array Value} {s : State} {m : MethodId} {meth : Method} {c : Code} (h1 : s.methodNamed? y = some m) (h2 : s.vm.method? m = some meth) (h3 : meth.code = some c) (h4 : c.code = bytes)
    (h5 : (c.maxLocals == mx && c.exceptionTable.isEmpty && decide (c.maxStack ≤ mostOperands) && decide (meth.sig.returnType = rt) && !meth.locks && decide (parseMethodDescriptor y.desc = some meth.sig)) = true) : (Jvm.Cond.code y bytes mx rt).before a s = true := by
  simp only [Bool.and_eq_true, beq_iff_eq, Bool.not_eq_true', decide_eq_true_eq] at h5
  obtain ⟨⟨⟨⟨⟨g1, g2⟩, g3⟩, g4⟩, g5⟩, g6⟩ := h5
  simp [Cond.before, Cond.holds, Cond.value, h1, h2, h3, h4, g1, g2, g3, g4, g5, g6]
def isCode : Jvm.Cond → Bool
  | .code _ _ _ _ => true
  | _ => false
theorem all_split {L : List Jvm.Cond} {P : Jvm.Cond → Bool} (h1 : L.all (fun c => isCode c || P c) = true) (h2 : ∀ c ∈ L.filter isCode, P c = true) : L.all P = true := by
  refine List.all_eq_true.mpr fun c hc => ?_
  have h := List.all_eq_true.mp h1 c hc
  rcases Bool.eq_false_or_eq_true (isCode c) with hi | hi
  · exact h2 c (List.mem_filter.mpr ⟨hc, hi⟩)
  · simpa [hi] using h
set_option maxRecDepth 65536 in
theorem w_c0 : (Jvm.Cond.code x code maxLocals ret).before args0 about1 = true := code_word (m := ⟨1, 2⟩) (meth := k1m2) (c := k1c2) (by decide +kernel) rfl rfl rfl (by decide +kernel)
set_option maxRecDepth 65536 in
theorem w_c1 : (Jvm.Cond.code ({ cls := "com/example/tick6/tick6/rating/TariffUnitsPinLaw", name := "unitOf", desc := "(I)J" } : Jvm.MethodName) method_2_code (1 : Nat) (Option.some Jvm.ClassFile.FieldType.long)).before args0 about1 = true := code_word (m := ⟨1, 1⟩) (meth := k1m1) (c := k1c1) (by decide +kernel) rfl rfl rfl (by decide +kernel)
set_option maxRecDepth 65536 in
theorem w_c2 : (Jvm.Cond.code ({ cls := "com/example/tick6/tick6/rating/Tariff", name := "units", desc := "(JI)J" } : Jvm.MethodName) prog_48_method_3_code (6 : Nat) (Option.some Jvm.ClassFile.FieldType.long)).before args0 about1 = true := code_word (m := ⟨2, 0⟩) (meth := k2m0) (c := k2c0) (by decide +kernel) rfl rfl rfl (by decide +kernel)
def codes1 : List Jvm.Cond := [Jvm.Cond.code x code maxLocals ret, Jvm.Cond.code ({ cls := "com/example/tick6/tick6/rating/TariffUnitsPinLaw", name := "unitOf", desc := "(I)J" } : Jvm.MethodName) method_2_code (1 : Nat) (Option.some Jvm.ClassFile.FieldType.long), Jvm.Cond.code ({ cls := "com/example/tick6/tick6/rating/Tariff", name := "units", desc := "(JI)J" } : Jvm.MethodName) prog_48_method_3_code (6 : Nat) (Option.some Jvm.ClassFile.FieldType.long)]
set_option maxRecDepth 65536 in
theorem codes_eq : words1.filter isCode = codes1 := rfl
theorem w_codes : ∀ c ∈ words1.filter isCode, c.before args0 about1 = true := by
  rw [codes_eq]
  intro c hc
  simp only [codes1, List.mem_cons, List.not_mem_nil, or_false] at hc
  rcases hc with rfl | rfl | rfl
  · exact w_c0
  · exact w_c1
  · exact w_c2
set_option maxRecDepth 65536 in
theorem w_t1 : words1.all (fun c => isCode c || c.before args0 about1) = true := by decide +kernel
theorem w_tables : (allAtoms (Jvm.Cond.code x code maxLocals ret :: tables_1)).before args0 about1 = true := by
  rw [allAtoms_all]
  show words1.all (fun c => c.before args0 about1) = true
  refine all_split ?_ w_codes
  rw [w_t1]
set_option maxRecDepth 65536 in
theorem w_case : (Jvm.Cond.and given_1 narrow_1).before args0 about1 = true := by decide +kernel
theorem w_applies : (headSpec (Jvm.Cond.code x code maxLocals ret :: tables_1) room_1).applies x e0.platform about1 = true :=
  (Spec.applies_iff w_frames).mpr ⟨w_running, w_runnable, w_alone, w_named, w_hears, w_ripe, w_room, w_tables⟩
theorem atStart : AtStart classFile x code maxLocals ret World_1 tables_1 room_1 Calls_1 rest_1 Pre_1 launch0 p0 e0 about1 theMethod args0 below0 :=
  ⟨lists_1, trivial, launch0.admits_env _ _ _, launch0.least_env, fairChoices_fair.cas, fairChoices_fair.clock, w_frames, w_args, w_heap, w_applies, trivial, trivial, w_case⟩
end start1
theorem witness_1 : WitnessClaimed_1 := ⟨start1.p0, start1.e0, start1.about1, start1.theMethod, start1.args0, start1.below0, start1.atStart⟩
end Jvm.Pilot.@@N@@
