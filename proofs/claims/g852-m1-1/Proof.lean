import JvmDerived
import JvmDerived.Pilot.@@N@@Statement
import JvmDerived.Pilot.@@N@@Code
set_option linter.unusedVariables false
set_option linter.unusedSimpArgs false
namespace Jvm.RoadKit
open Sem ClassFile Op Lib Jvm.Stand Jvm.Free Jvm.LawKit
section New
variable {p : Program} {l : Launch} {e : Env} {R : Room} {s : State} {m : MethodId} {args : Array Value} {below : List Frame} {meth : Method} {c : Code} {T : State} {locs : List Loc} {cells slots : Nat}
theorem retI (X : Stand p l e R s m args below meth c T locs cells slots) (hx : p.tables.exec = Jvm.exec) {pc : Nat} {Ls : Array Slot} {z : Int32} {rest : List Value} (hret : meth.sig.returnType = some .int) (hd : decode c.code pc = .ok (.ireturn, 1)) {fs : List Frame}
    (hl : ∀ (f : JFrame) (acts : List Action), f.method = m → f.locked = none → f.entered = [] → (doReturn e (T.setTop f) acts (some (.int z))).1 = T.setFrames fs) : Steps p.tables e below (T.setTop (mkF m pc Ls (.int z :: rest))) (T.setFrames fs) := by
  have hm' : T.vm.method? m = some meth := X.method'
  have hn : narrow .int (.int z) = .int z := rfl
  show Steps p.tables e below (T.setTop { method := m, pc := pc, locals := Ls, stack := _ :: rest, locked := none }) _
  jvm_step X.here [X.here.top, hx, hd, hm', hret, hn]
  first | (intro acts; rw [hl _ acts rfl rfl rfl]) | rw [hl _ _ rfl rfl rfl]
  exact Steps.refl _
end New
end Jvm.RoadKit
namespace Jvm.Wp
open Sem ClassFile Op Lib Jvm.Free Jvm.Stand Jvm.LawKit Jvm.RoadKit

/-- a cell of the walk's own small heap: an array (its kind, its values) or an object (its class, its fields: name, descriptor, value) -/
abbrev MC : Type := Sum (FieldType × List Value) (String × List (String × String × Value))
abbrev MH : Type := List (Addr × MC)
def COk (Z : State) (a0 : Array Value) (h : Heap) (a : Addr) : MC → Prop
  | .inl (ty, vs) => ∃ c : Cell, Arr Z h a c ty ∧ c.slots = vs.toArray ∧ vs.length < 2 ^ 31
  | .inr (C, fs) => Exa Z h a C ∧ (fs.map (·.1)).Nodup ∧ ∀ x ∈ fs, Fld Z h a C x.1 x.2.1 x.2.2 ∧ Laid Z a0 C C x.1 x.2.1 ∧ ∃ t, parseFieldDescriptor x.2.1 = some t
def Rel (Z : State) (a0 : Array Value) (n0 : Nat) (H : MH) (h : Heap) : Prop := n0 ≤ h.size ∧ (H.map (·.1)).Nodup ∧ ∀ x ∈ H, n0 ≤ x.1 ∧ COk Z a0 h x.1 x.2

theorem COk.lt {Z : State} {a0 : Array Value} {h : Heap} {a : Addr} {c : MC} (k : COk Z a0 h a c) : a < h.size := by
  cases c with
  | inl q => obtain ⟨ty, vs⟩ := q; obtain ⟨c, A, -⟩ := k; exact A.lt
  | inr q => obtain ⟨C, fs⟩ := q; exact k.1.lt
/-- from pc on, with these locals, this stack, this small heap: the method returns, and Q holds of what it returns and of the small heap at the end -/
def WP (l : Launch) (Z : State) (a0 : Array Value) (n0 : Nat) (R : Room) (y : MethodName) (code : ByteArray) (mx : Nat) (ret : Option FieldType) (cells slots pc : Nat) (Ls : List Slot) (st : List Value) (H : MH) (Q : Option Value → MH → Prop) : Prop :=
  ∀ (p : Program) (e : Env) (s : State) (m : MethodId) (args : Array Value) (below : List Frame) (meth : Method) (c : Code) (T : State) (locs : List Loc),
    Stand p l e R s m args below meth c T locs cells slots → p.tables.exec = Jvm.exec → Z.Warmed39 s.vm → c.code = code → c.maxLocals = mx → s.vm.findClass y.cls = some m.cls → meth.name = y.name → meth.sig.returnType = ret → meth.locks = false →
    Fr n0 locs → Rel Z a0 n0 H T.heap → cells ≤ R.cells → slots ≤ R.slots →
    ∃ v H' L s₂, Steps p.tables e below (T.setTop (mkF m pc ⟨Ls⟩ st)) s₂ ∧ s₂.status = .running ∧ Ended s₂ below (.returned v) ∧ Fr n0 L ∧ Rel Z a0 n0 H' s₂.heap ∧ Q v H' ∧ s.WarmedH s₂.vm ∧ s.sameButNew ({ s₂ with vm := s.vm } : State) L R.cells R.slots
/-- a method's contract: called with these arguments over this small heap it returns, and Q holds -/
def Con (l : Launch) (Z : State) (a0 : Array Value) (n0 : Nat) (y : MethodName) (code : ByteArray) (mx : Nat) (ret : Option FieldType) (rm : Room) (as : Array Value) (H : MH) (Q : Option Value → MH → Prop) : Prop :=
  ∀ (ws : List Cond) (h0 : Heap), Rel Z a0 n0 H h0 → MetFree l y (head1 (Cond.code y code mx ret :: ws) rm) (fun a U => a = as ∧ Z.Warmed39 U.vm ∧ U.heap = h0) (fun _ _ _ _ _ => True)
    (fun _ U o U' => ∃ v L, o = .returned v ∧ (Fr n0 L ∧ ∃ H', Rel Z a0 n0 H' U'.heap ∧ Q v H') ∧ FrameEnd U o U' L rm.cells rm.slots)

variable {l : Launch} {Z : State} {a0 : Array Value} {n0 : Nat} {R : Room} {y : MethodName} {code : ByteArray} {mx : Nat} {ret : Option FieldType} {cells slots pc : Nat} {Ls : List Slot} {st : List Value} {H : MH} {Q : Option Value → MH → Prop}

theorem Con.intro {rm : Room} {as : Array Value} (hpn : plainName y.cls = true) (hE : ∀ m, entryFrame m as mx = mkF m 0 ⟨Ls⟩ []) (h : WP l Z a0 n0 rm y code mx ret 0 0 0 Ls [] H Q) : Con l Z a0 n0 y code mx ret rm as H Q := by
  intro ws h0 hR
  refine MetFree.of_bodySF (plainFor_of_name hpn) hisR ?_
  intro p e s m args below meth c s₁ Bd hml0 hP hK
  obtain ⟨rfl, hZ, hh⟩ := hP
  have e0 : s₁.heap = h0 := by rw [← hh, Bd.state]; rfl
  obtain ⟨v, H', L, s2, k1, k2, k3, k4, k5, k6, k7, k8⟩ := h p e s m _ below meth c s₁ [] (Stand.of_body Bd) Bd.exec hZ Bd.bytes hml0 (findClass_of_methodNamed Bd.named) (name_of_methodNamed Bd.named Bd.method).1 Bd.returns Bd.notSynchronized (Fr.nil n0) (by rw [e0]; exact hR) (Nat.zero_le _) (Nat.zero_le _)
  exact ⟨s2, _, castTop (hE m) k1, k2, k3, v, L, rfl, ⟨k4, H', k5, k6⟩, ⟨_, rfl⟩, k7, k8⟩
theorem Con.mono {rm : Room} {as : Array Value} {Q' : Option Value → MH → Prop} (h : Con l Z a0 n0 y code mx ret rm as H Q) (k : ∀ v H', Q v H' → Q' v H') : Con l Z a0 n0 y code mx ret rm as H Q' := by
  intro ws h0 hR p e ha hc hk s m args below hf happ hP hK
  obtain ⟨n, o, q1, q2, q3, v, L, q4, ⟨q5, H', q6, q7⟩, q8⟩ := h ws h0 hR p e ha hc hk s m args below hf happ hP hK
  exact ⟨n, o, q1, q2, q3, v, L, q4, ⟨q5, H', q6, k _ _ q7⟩, q8⟩
theorem WP.mono {Q' : Option Value → MH → Prop} (h : WP l Z a0 n0 R y code mx ret cells slots pc Ls st H Q) (k : ∀ v H', Q v H' → Q' v H') : WP l Z a0 n0 R y code mx ret cells slots pc Ls st H Q' := by
  intro p e s m args below meth c T locs X hx hZ hc hm ho hn hr hl hF hR g1 g2
  obtain ⟨v, H', L, s2, k1, k2, k3, k4, k5, k6, k7⟩ := h p e s m args below meth c T locs X hx hZ hc hm ho hn hr hl hF hR g1 g2
  exact ⟨v, H', L, s2, k1, k2, k3, k4, k5, k _ _ k6, k7⟩

/-- a step that moves the frame alone -/
theorem pure {pc' : Nat} {Ls' : List Slot} {st' : List Value}
    (h : ∀ (p : Program) (e : Env) (m : MethodId) (below : List Frame) (c : Code) (T target : State), At T m c below → p.tables.exec = Jvm.exec → c.code = code → Steps p.tables e below (T.setTop (mkF m pc' ⟨Ls'⟩ st')) target → Steps p.tables e below (T.setTop (mkF m pc ⟨Ls⟩ st)) target)
    (k : WP l Z a0 n0 R y code mx ret cells slots pc' Ls' st' H Q) : WP l Z a0 n0 R y code mx ret cells slots pc Ls st H Q := by
  intro p e s m args below meth c T locs X hx hZ hc hm ho hn hr hl hF hR g1 g2
  obtain ⟨v, H', L, s2, k1, k2⟩ := k p e s m args below meth c T locs X hx hZ hc hm ho hn hr hl hF hR g1 g2
  exact ⟨v, H', L, s2, h p e m below c T s2 X.here hx hc k1, k2⟩
/-- a step that hands back a new state over the same heap -/
theorem stepT {pc' : Nat} {Ls' : List Slot} {st' : List Value}
    (h : ∀ (p : Program) (e : Env) (s : State) (m : MethodId) (args : Array Value) (below : List Frame) (meth : Method) (c : Code) (T : State) (locs : List Loc), Stand p l e R s m args below meth c T locs cells slots → p.tables.exec = Jvm.exec → Z.Warmed39 s.vm → c.code = code → c.maxLocals = mx → s.vm.findClass y.cls = some m.cls → Rel Z a0 n0 H T.heap →
      ∃ T', Stand p l e R s m args below meth c T' locs cells slots ∧ T'.heap = T.heap ∧ ∀ target, Steps p.tables e below (T'.setTop (mkF m pc' ⟨Ls'⟩ st')) target → Steps p.tables e below (T.setTop (mkF m pc ⟨Ls⟩ st)) target)
    (k : WP l Z a0 n0 R y code mx ret cells slots pc' Ls' st' H Q) : WP l Z a0 n0 R y code mx ret cells slots pc Ls st H Q := by
  intro p e s m args below meth c T locs X hx hZ hc hm ho hn hr hl hF hR g1 g2
  obtain ⟨T', X', e', st⟩ := h p e s m args below meth c T locs X hx hZ hc hm ho hR
  obtain ⟨v, H', L, s2, k1, k2⟩ := k p e s m args below meth c T' locs X' hx hZ hc hm ho hn hr hl hF (by rw [e']; exact hR) g1 g2
  exact ⟨v, H', L, s2, st _ k1, k2⟩
theorem iloadN {k : Fin 4} {v : Int32} {pc' : Nat} (hd : decode code pc = .ok (.iload_n k, 1)) (hl : Ls[k.val]? = some (.val (.int v))) (hp : pc + 1 = pc') (w : WP l Z a0 n0 R y code mx ret cells slots pc' Ls (.int v :: st) H Q) : WP l Z a0 n0 R y code mx ret cells slots pc Ls st H Q := by
  subst hp
  exact pure (fun p e m below c T t h hx hc hs => XS.iloadN h hx rfl (hb hc hd) (by simpa using hl) hs) w
theorem iconst {i : Int} (n : Int32) {pc' : Nat} (hd : decode code pc = .ok (.iconst i, 1)) (hn : Int32.ofInt i = n) (hp : pc + 1 = pc') (w : WP l Z a0 n0 R y code mx ret cells slots pc' Ls (.int n :: st) H Q) : WP l Z a0 n0 R y code mx ret cells slots pc Ls st H Q := by
  subst hp hn
  exact pure (fun p e m below c T t h hx hc hs => XS.iconst h hx rfl (hb hc hd) hs) w
theorem bipush {i : Int} (n : Int32) {pc' : Nat} (hd : decode code pc = .ok (.bipush i, 2)) (hn : (Int8.ofInt i).toInt32 = n) (hp : pc + 2 = pc') (w : WP l Z a0 n0 R y code mx ret cells slots pc' Ls (.int n :: st) H Q) : WP l Z a0 n0 R y code mx ret cells slots pc Ls st H Q := by
  subst hp hn
  exact pure (fun p e m below c T t h hx hc hs => XS.bipush h hx rfl (hb hc hd) hs) w
theorem sipush {i : Int} (n : Int32) {pc' : Nat} (hd : decode code pc = .ok (.sipush i, 3)) (hn : (Int16.ofInt i).toInt32 = n) (hp : pc + 3 = pc') (w : WP l Z a0 n0 R y code mx ret cells slots pc' Ls (.int n :: st) H Q) : WP l Z a0 n0 R y code mx ret cells slots pc Ls st H Q := by
  subst hp hn
  exact pure (fun p e m below c T t h hx hc hs => XS.sipush h hx rfl (hb hc hd) hs) w
theorem iand {x z : Int32} {pc' : Nat} (hd : decode code pc = .ok (.iand, 1)) (hp : pc + 1 = pc') (w : WP l Z a0 n0 R y code mx ret cells slots pc' Ls (.int (x &&& z) :: st) H Q) : WP l Z a0 n0 R y code mx ret cells slots pc Ls (.int z :: .int x :: st) H Q := by
  subst hp
  exact pure (fun p e m below c T t h hx hc hs => XS.iand h hx rfl (hb hc hd) rfl hs) w
theorem goto {o : Int} {pc' : Nat} (hd : decode code pc = .ok (.goto o, 3)) (hp : (pc : Int) + o = (pc' : Int)) (w : WP l Z a0 n0 R y code mx ret cells slots pc' Ls st H Q) : WP l Z a0 n0 R y code mx ret cells slots pc Ls st H Q :=
  pure (fun p e m below c T t h hx hc hs => XS.goto h hx rfl (pc0 := pc) (pc' := pc') rfl (hb hc hd) (by omega) (by omega) hs) w
theorem hI_lt {x z : Int32} : (if_icmp.holds .lt x z = true → x.toInt < z.toInt) ∧ (if_icmp.holds .lt x z = false → z.toInt ≤ x.toInt) := by
  constructor <;> intro hq <;> simp [if_icmp.holds, Int32.lt_iff_toInt_lt, Int32.le_iff_toInt_le] at hq ⊢ <;> first | omega | exact hq | simp_all
theorem icmp_lt {x z : Int32} {o : Int} {pt pf : Nat} (hd : decode code pc = .ok (.if_icmp .lt o, 3)) (hp : (pc : Int) + o = (pt : Int)) (hq : pc + 3 = pf) (wt : x.toInt < z.toInt → WP l Z a0 n0 R y code mx ret cells slots pt Ls st H Q) (wf : z.toInt ≤ x.toInt → WP l Z a0 n0 R y code mx ret cells slots pf Ls st H Q) : WP l Z a0 n0 R y code mx ret cells slots pc Ls (.int z :: .int x :: st) H Q := by
  subst hq
  cases hh : if_icmp.holds .lt x z
  · exact pure (fun p e m below c T t h hx hc hs => XS.icmpNo h hx rfl (hb hc hd) rfl hh hs) (wf (hI_lt.2 hh))
  · exact pure (fun p e m below c T t h hx hc hs => XS.icmpYes h hx rfl (pc0 := pc) (pc' := pt) rfl (hb hc hd) rfl hh (by omega) (by omega) hs) (wt (hI_lt.1 hh))
theorem hI_ge {x z : Int32} : (if_icmp.holds .ge x z = true → z.toInt ≤ x.toInt) ∧ (if_icmp.holds .ge x z = false → x.toInt < z.toInt) := by
  constructor <;> intro hq <;> simp [if_icmp.holds, Int32.lt_iff_toInt_lt, Int32.le_iff_toInt_le] at hq ⊢ <;> first | omega | exact hq | simp_all
theorem icmp_ge {x z : Int32} {o : Int} {pt pf : Nat} (hd : decode code pc = .ok (.if_icmp .ge o, 3)) (hp : (pc : Int) + o = (pt : Int)) (hq : pc + 3 = pf) (wt : z.toInt ≤ x.toInt → WP l Z a0 n0 R y code mx ret cells slots pt Ls st H Q) (wf : x.toInt < z.toInt → WP l Z a0 n0 R y code mx ret cells slots pf Ls st H Q) : WP l Z a0 n0 R y code mx ret cells slots pc Ls (.int z :: .int x :: st) H Q := by
  subst hq
  cases hh : if_icmp.holds .ge x z
  · exact pure (fun p e m below c T t h hx hc hs => XS.icmpNo h hx rfl (hb hc hd) rfl hh hs) (wf (hI_ge.2 hh))
  · exact pure (fun p e m below c T t h hx hc hs => XS.icmpYes h hx rfl (pc0 := pc) (pc' := pt) rfl (hb hc hd) rfl hh (by omega) (by omega) hs) (wt (hI_ge.1 hh))
theorem hI_gt {x z : Int32} : (if_icmp.holds .gt x z = true → z.toInt < x.toInt) ∧ (if_icmp.holds .gt x z = false → x.toInt ≤ z.toInt) := by
  constructor <;> intro hq <;> simp [if_icmp.holds, Int32.lt_iff_toInt_lt, Int32.le_iff_toInt_le] at hq ⊢ <;> first | omega | exact hq | simp_all
theorem icmp_gt {x z : Int32} {o : Int} {pt pf : Nat} (hd : decode code pc = .ok (.if_icmp .gt o, 3)) (hp : (pc : Int) + o = (pt : Int)) (hq : pc + 3 = pf) (wt : z.toInt < x.toInt → WP l Z a0 n0 R y code mx ret cells slots pt Ls st H Q) (wf : x.toInt ≤ z.toInt → WP l Z a0 n0 R y code mx ret cells slots pf Ls st H Q) : WP l Z a0 n0 R y code mx ret cells slots pc Ls (.int z :: .int x :: st) H Q := by
  subst hq
  cases hh : if_icmp.holds .gt x z
  · exact pure (fun p e m below c T t h hx hc hs => XS.icmpNo h hx rfl (hb hc hd) rfl hh hs) (wf (hI_gt.2 hh))
  · exact pure (fun p e m below c T t h hx hc hs => XS.icmpYes h hx rfl (pc0 := pc) (pc' := pt) rfl (hb hc hd) rfl hh (by omega) (by omega) hs) (wt (hI_gt.1 hh))
theorem hI_le {x z : Int32} : (if_icmp.holds .le x z = true → x.toInt ≤ z.toInt) ∧ (if_icmp.holds .le x z = false → z.toInt < x.toInt) := by
  constructor <;> intro hq <;> simp [if_icmp.holds, Int32.lt_iff_toInt_lt, Int32.le_iff_toInt_le] at hq ⊢ <;> first | omega | exact hq | simp_all
theorem icmp_le {x z : Int32} {o : Int} {pt pf : Nat} (hd : decode code pc = .ok (.if_icmp .le o, 3)) (hp : (pc : Int) + o = (pt : Int)) (hq : pc + 3 = pf) (wt : x.toInt ≤ z.toInt → WP l Z a0 n0 R y code mx ret cells slots pt Ls st H Q) (wf : z.toInt < x.toInt → WP l Z a0 n0 R y code mx ret cells slots pf Ls st H Q) : WP l Z a0 n0 R y code mx ret cells slots pc Ls (.int z :: .int x :: st) H Q := by
  subst hq
  cases hh : if_icmp.holds .le x z
  · exact pure (fun p e m below c T t h hx hc hs => XS.icmpNo h hx rfl (hb hc hd) rfl hh hs) (wf (hI_le.2 hh))
  · exact pure (fun p e m below c T t h hx hc hs => XS.icmpYes h hx rfl (pc0 := pc) (pc' := pt) rfl (hb hc hd) rfl hh (by omega) (by omega) hs) (wt (hI_le.1 hh))
theorem hI_eq {x z : Int32} : (if_icmp.holds .eq x z = true → x = z) ∧ (if_icmp.holds .eq x z = false → ¬ x = z) := by
  constructor <;> intro hq <;> simp [if_icmp.holds, Int32.lt_iff_toInt_lt, Int32.le_iff_toInt_le] at hq ⊢ <;> first | omega | exact hq | simp_all
theorem icmp_eq {x z : Int32} {o : Int} {pt pf : Nat} (hd : decode code pc = .ok (.if_icmp .eq o, 3)) (hp : (pc : Int) + o = (pt : Int)) (hq : pc + 3 = pf) (wt : x = z → WP l Z a0 n0 R y code mx ret cells slots pt Ls st H Q) (wf : ¬ x = z → WP l Z a0 n0 R y code mx ret cells slots pf Ls st H Q) : WP l Z a0 n0 R y code mx ret cells slots pc Ls (.int z :: .int x :: st) H Q := by
  subst hq
  cases hh : if_icmp.holds .eq x z
  · exact pure (fun p e m below c T t h hx hc hs => XS.icmpNo h hx rfl (hb hc hd) rfl hh hs) (wf (hI_eq.2 hh))
  · exact pure (fun p e m below c T t h hx hc hs => XS.icmpYes h hx rfl (pc0 := pc) (pc' := pt) rfl (hb hc hd) rfl hh (by omega) (by omega) hs) (wt (hI_eq.1 hh))
theorem hZ_eq {x : Int32} : (ifCond.holds .eq x = true → x = 0) ∧ (ifCond.holds .eq x = false → ¬ x = 0) := by
  rw [if0]
  exact hI_eq (z := 0)
theorem if_eq {x : Int32} {o : Int} {pt pf : Nat} (hd : decode code pc = .ok (.ifCond .eq o, 3)) (hp : (pc : Int) + o = (pt : Int)) (hq : pc + 3 = pf) (wt : x = 0 → WP l Z a0 n0 R y code mx ret cells slots pt Ls st H Q) (wf : ¬ x = 0 → WP l Z a0 n0 R y code mx ret cells slots pf Ls st H Q) : WP l Z a0 n0 R y code mx ret cells slots pc Ls (.int x :: st) H Q := by
  subst hq
  cases hh : ifCond.holds .eq x
  · exact pure (fun p e m below c T t h hx hc hs => XS.ifNo h hx rfl (hb hc hd) rfl hh hs) (wf (hZ_eq.2 hh))
  · exact pure (fun p e m below c T t h hx hc hs => XS.ifYes h hx rfl (pc0 := pc) (pc' := pt) rfl (hb hc hd) rfl hh (by omega) (by omega) hs) (wt (hZ_eq.1 hh))
theorem hI_ne {x z : Int32} : (if_icmp.holds .ne x z = true → ¬ x = z) ∧ (if_icmp.holds .ne x z = false → x = z) := by
  constructor <;> intro hq <;> simp [if_icmp.holds, Int32.lt_iff_toInt_lt, Int32.le_iff_toInt_le] at hq ⊢ <;> first | omega | exact hq | simp_all
theorem icmp_ne {x z : Int32} {o : Int} {pt pf : Nat} (hd : decode code pc = .ok (.if_icmp .ne o, 3)) (hp : (pc : Int) + o = (pt : Int)) (hq : pc + 3 = pf) (wt : ¬ x = z → WP l Z a0 n0 R y code mx ret cells slots pt Ls st H Q) (wf : x = z → WP l Z a0 n0 R y code mx ret cells slots pf Ls st H Q) : WP l Z a0 n0 R y code mx ret cells slots pc Ls (.int z :: .int x :: st) H Q := by
  subst hq
  cases hh : if_icmp.holds .ne x z
  · exact pure (fun p e m below c T t h hx hc hs => XS.icmpNo h hx rfl (hb hc hd) rfl hh hs) (wf (hI_ne.2 hh))
  · exact pure (fun p e m below c T t h hx hc hs => XS.icmpYes h hx rfl (pc0 := pc) (pc' := pt) rfl (hb hc hd) rfl hh (by omega) (by omega) hs) (wt (hI_ne.1 hh))
theorem hZ_ne {x : Int32} : (ifCond.holds .ne x = true → ¬ x = 0) ∧ (ifCond.holds .ne x = false → x = 0) := by
  rw [if0]
  exact hI_ne (z := 0)
theorem if_ne {x : Int32} {o : Int} {pt pf : Nat} (hd : decode code pc = .ok (.ifCond .ne o, 3)) (hp : (pc : Int) + o = (pt : Int)) (hq : pc + 3 = pf) (wt : ¬ x = 0 → WP l Z a0 n0 R y code mx ret cells slots pt Ls st H Q) (wf : x = 0 → WP l Z a0 n0 R y code mx ret cells slots pf Ls st H Q) : WP l Z a0 n0 R y code mx ret cells slots pc Ls (.int x :: st) H Q := by
  subst hq
  cases hh : ifCond.holds .ne x
  · exact pure (fun p e m below c T t h hx hc hs => XS.ifNo h hx rfl (hb hc hd) rfl hh hs) (wf (hZ_ne.2 hh))
  · exact pure (fun p e m below c T t h hx hc hs => XS.ifYes h hx rfl (pc0 := pc) (pc' := pt) rfl (hb hc hd) rfl hh (by omega) (by omega) hs) (wt (hZ_ne.1 hh))
theorem icmp_eqI {x z : Int32} {o : Int} {pt pf : Nat} (hd : decode code pc = .ok (.if_icmp .eq o, 3)) (hp : (pc : Int) + o = (pt : Int)) (hq : pc + 3 = pf) (wt : x.toInt = z.toInt → WP l Z a0 n0 R y code mx ret cells slots pt Ls st H Q) (wf : x.toInt ≠ z.toInt → WP l Z a0 n0 R y code mx ret cells slots pf Ls st H Q) : WP l Z a0 n0 R y code mx ret cells slots pc Ls (.int z :: .int x :: st) H Q := icmp_eq hd hp hq (fun q => wt (Int32.toInt_inj.mpr q)) (fun q => wf (fun e => q (Int32.toInt_inj.mp e)))
theorem if_eqI {x : Int32} {o : Int} {pt pf : Nat} (hd : decode code pc = .ok (.ifCond .eq o, 3)) (hp : (pc : Int) + o = (pt : Int)) (hq : pc + 3 = pf) (wt : x.toInt = 0 → WP l Z a0 n0 R y code mx ret cells slots pt Ls st H Q) (wf : x.toInt ≠ 0 → WP l Z a0 n0 R y code mx ret cells slots pf Ls st H Q) : WP l Z a0 n0 R y code mx ret cells slots pc Ls (.int x :: st) H Q := if_eq hd hp hq (fun q => wt (Int32.toInt_inj.mpr q)) (fun q => wf (fun e => q (Int32.toInt_inj.mp e)))
theorem icmp_neI {x z : Int32} {o : Int} {pt pf : Nat} (hd : decode code pc = .ok (.if_icmp .ne o, 3)) (hp : (pc : Int) + o = (pt : Int)) (hq : pc + 3 = pf) (wt : x.toInt ≠ z.toInt → WP l Z a0 n0 R y code mx ret cells slots pt Ls st H Q) (wf : x.toInt = z.toInt → WP l Z a0 n0 R y code mx ret cells slots pf Ls st H Q) : WP l Z a0 n0 R y code mx ret cells slots pc Ls (.int z :: .int x :: st) H Q := icmp_ne hd hp hq (fun q => wt (fun e => q (Int32.toInt_inj.mp e))) (fun q => wf (Int32.toInt_inj.mpr q))
theorem if_neI {x : Int32} {o : Int} {pt pf : Nat} (hd : decode code pc = .ok (.ifCond .ne o, 3)) (hp : (pc : Int) + o = (pt : Int)) (hq : pc + 3 = pf) (wt : x.toInt ≠ 0 → WP l Z a0 n0 R y code mx ret cells slots pt Ls st H Q) (wf : x.toInt = 0 → WP l Z a0 n0 R y code mx ret cells slots pf Ls st H Q) : WP l Z a0 n0 R y code mx ret cells slots pc Ls (.int x :: st) H Q := if_ne hd hp hq (fun q => wt (fun e => q (Int32.toInt_inj.mp e))) (fun q => wf (Int32.toInt_inj.mpr q))
def ok1 : Slot → Bool
  | .unset => true
  | .val v => v.category == 1
  | .second => false
theorem stl1 (pre : List Slot) {o : Slot} {t : List Slot} {v : Value} (ho : ok1 o = true) (hv : v.category = 1) : storeLocals ⟨pre ++ o :: t⟩ pre.length v = some ⟨pre ++ .val v :: t⟩ := by
  have hg : (⟨pre ++ o :: t⟩ : Array Slot)[pre.length]? = some o := by simp
  have hs : storeSelf (⟨pre ++ o :: t⟩ : Array Slot) pre.length v = some ⟨pre ++ .val v :: t⟩ := by
    simp [storeSelf, setAt, hv, Array.setIfInBounds]
  cases o with
  | unset => simp only [storeLocals, hg]; exact hs
  | second => cases ho
  | val w =>
    have hw : ¬ w.category = 2 := by simp only [ok1, beq_iff_eq] at ho; omega
    simp only [storeLocals, hg]
    show (if w.category = 2 then _ else _) = _
    rw [if_neg hw]; exact hs
theorem istoreN_1 {s0 : Slot} {o : Slot} {t : List Slot} {x : Int32} {pc' : Nat} (hd : decode code pc = .ok (.istore_n 1, 1)) (ho : ok1 o = true) (hp : pc + 1 = pc') (w : WP l Z a0 n0 R y code mx ret cells slots pc' (s0 :: .val (.int x) :: t) st H Q) : WP l Z a0 n0 R y code mx ret cells slots pc (s0 :: o :: t) (.int x :: st) H Q := by
  subst hp
  exact pure (fun p e m below c T t h hx hc' hs => XS.istoreN h hx rfl (hb hc' hd) rfl (stl1 [s0] ho rfl) hs) w
theorem istoreN_2 {s0 s1 : Slot} {o : Slot} {t : List Slot} {x : Int32} {pc' : Nat} (hd : decode code pc = .ok (.istore_n 2, 1)) (ho : ok1 o = true) (hp : pc + 1 = pc') (w : WP l Z a0 n0 R y code mx ret cells slots pc' (s0 :: s1 :: .val (.int x) :: t) st H Q) : WP l Z a0 n0 R y code mx ret cells slots pc (s0 :: s1 :: o :: t) (.int x :: st) H Q := by
  subst hp
  exact pure (fun p e m below c T t h hx hc' hs => XS.istoreN h hx rfl (hb hc' hd) rfl (stl1 [s0, s1] ho rfl) hs) w
theorem istoreN_3 {s0 s1 s2 : Slot} {o : Slot} {t : List Slot} {x : Int32} {pc' : Nat} (hd : decode code pc = .ok (.istore_n 3, 1)) (ho : ok1 o = true) (hp : pc + 1 = pc') (w : WP l Z a0 n0 R y code mx ret cells slots pc' (s0 :: s1 :: s2 :: .val (.int x) :: t) st H Q) : WP l Z a0 n0 R y code mx ret cells slots pc (s0 :: s1 :: s2 :: o :: t) (.int x :: st) H Q := by
  subst hp
  exact pure (fun p e m below c T t h hx hc' hs => XS.istoreN h hx rfl (hb hc' hd) rfl (stl1 [s0, s1, s2] ho rfl) hs) w
theorem ldcI {i : Nat} {n : Int32} {pc' : Nat} (hw : (Cond.constant y.cls i n).before a0 Z = true) (hd : decode code pc = .ok (.ldc i, 2)) (hp : pc + 2 = pc') (w : WP l Z a0 n0 R y code mx ret cells slots pc' Ls (.int n :: st) H Q) : WP l Z a0 n0 R y code mx ret cells slots pc Ls st H Q := by
  subst hp
  exact stepT (fun p e s m args below meth c T locs X hx hZ hc hm ho hR => ⟨T, X, rfl, X.ldcInt hx ho (mvT hZ hw) (g := mkF m pc ⟨Ls⟩ st) rfl (hb hc hd)⟩) w
theorem leaveW {v : Option Value} {st : List Value} (hv : ret = none → v = none) (q : Q v H)
    (h : ∀ (p : Program) (e : Env) (s : State) (m : MethodId) (args : Array Value) (below : List Frame) (meth : Method) (c : Code) (T : State) (locs : List Loc) (fs : List Frame), Stand p l e R s m args below meth c T locs cells slots → p.tables.exec = Jvm.exec → c.code = code → meth.sig.returnType = ret → (∀ (f : JFrame) (acts : List Action), f.method = m → f.locked = none → f.entered = [] → (doReturn e (T.setTop f) acts v).1 = T.setFrames fs) → Steps p.tables e below (T.setTop (mkF m pc ⟨Ls⟩ st)) (T.setFrames fs)) : WP l Z a0 n0 R y code mx ret cells slots pc Ls st H Q := by
  intro p e s m args below meth c T locs X hx hZ hc hm ho hn hr hl hF hR g1 g2
  obtain ⟨fs, hrr, hrun, hended, hW, hsame⟩ := X.leave (v := v) (fun k => hv (by rw [← hr]; exact k)) hl
  exact ⟨v, H, locs, _, h p e s m args below meth c T locs fs X hx hc hr hrr, hrun, hended, hF, hR, q, hW, hsame.mono g1 g2⟩
theorem ireturn {z : Int32} (hret : ret = some .int) (hd : decode code pc = .ok (.ireturn, 1)) (q : Q (some (.int z)) H) : WP l Z a0 n0 R y code mx ret cells slots pc Ls (.int z :: st) H Q :=
  leaveW (fun k => by rw [hret] at k; cases k) q fun p e s m args below meth c T locs fs X hx hc hr hrr => retI X hx (hr.trans hret) (hb hc hd) hrr
theorem zreturn {z : Int32} (hret : ret = some .boolean) (hd : decode code pc = .ok (.ireturn, 1)) (q : Q (some (.int (z &&& 1))) H) : WP l Z a0 n0 R y code mx ret cells slots pc Ls (.int z :: st) H Q :=
  leaveW (fun k => by rw [hret] at k; cases k) q fun p e s m args below meth c T locs fs X hx hc hr hrr => retN X hx (t := .boolean) (hr.trans hret) (by simp) (hb hc hd) hrr
/-- what a call by a contract leaves -/
def After (l : Launch) (Z : State) (a0 : Array Value) (n0 : Nat) (R : Room) (y : MethodName) (code : ByteArray) (mx : Nat) (ret : Option FieldType) (cells slots pc : Nat) (Ls : List Slot) (st : List Value) (Q : Option Value → MH → Prop) : Option Value → MH → Prop
  | some r, H' => WP l Z a0 n0 R y code mx ret cells slots pc Ls (r :: st) H' Q
  | none, H' => WP l Z a0 n0 R y code mx ret cells slots pc Ls st H' Q
theorem After.to {v : Option Value} {H' : MH} (h : After l Z a0 n0 R y code mx ret cells slots pc Ls st Q v H') : WP l Z a0 n0 R y code mx ret cells slots pc Ls (v.toList ++ st) H' Q := by
  cases v <;> exact h
theorem callSG {z : MethodName} {zc : ByteArray} {zm : Nat} {zr : Option FieldType} {ps : List FieldType} {i : Nat} {rm : Room} {pc' : Nat} (W : Nat) (argsL : List Value) {rest : List Value} (w1 : (Cond.methodLink y.cls i z).before a0 Z = true) (w2 : (Cond.static z).before a0 Z = true) (w3 : (Cond.initialized z.cls).before a0 Z = true) (w4 : (Cond.code z zc zm zr).before a0 Z = true) (hy : z.cls ≠ "java/lang/invoke/MethodHandle" ∧ z.cls ≠ "java/lang/invoke/VarHandle") (hds : parseMethodDescriptor z.desc = some ⟨ps, zr⟩) (hlen : argsL.length = ps.length) (hd : decode code pc = .ok (.invokestatic i, 3)) (hs : Ls.length = mx) (hW : (rest.map fun v => v.category).sum = W) (hf : rm.frames + 1 ≤ R.frames) (hl : W + (zm + 11) + rm.locals ≤ R.locals) (hc : cells + rm.cells ≤ R.cells) (hsl : slots + rm.slots ≤ R.slots) (hp : pc + 3 = pc') {cells' slots' : Nat} (hc' : cells + rm.cells = cells') (hs' : slots + rm.slots = slots') (hst : st = argsL.reverse ++ rest)
    (k : Con l Z a0 n0 z zc zm zr rm argsL.toArray H (After l Z a0 n0 R y code mx ret cells' slots' pc' Ls rest Q)) : WP l Z a0 n0 R y code mx ret cells slots pc Ls st H Q := by
  subst hp hst hc' hs'
  intro p e s m args below meth c T locs X hx hZ hcode hm ho hnm hr hlk hF hR g1 g2
  obtain ⟨v, vm, ⟨T', L', k', n'⟩, -, X', ⟨Lc, ⟨q1, H', q2, q3⟩, e1, e2, e3⟩, st'⟩ := Jvm.LawKit.callS X hx (y := z) ho (mvT hZ w1) (mvT hZ w2) (mvT hZ w3) (mvT hZ w4) hy (backOf (W := W) (h := T.heap) (Q := fun v h L => Fr n0 L ∧ ∃ H', Rel Z a0 n0 H' h ∧ After l Z a0 n0 R y code mx ret (cells + rm.cells) (slots + rm.slots) (pc + 3) Ls rest Q v H') (k [] T.heap hR) hZ w4 w3 hf hl) (g := mkF m pc ⟨Ls⟩ (argsL.reverse ++ rest)) rfl (by rw [hm]; simpa using hs) (argsL := argsL) (rest := rest) (lenOf hds hlen) rfl (by show 2 * 0 + _ ≤ _; omega) (hb hcode hd) (fun _ _ => ⟨rfl, rfl, hc, hsl⟩)
  dsimp only [Pt.U, Pt.locs, Pt.cells, Pt.slots] at X' e1 e2 e3 st'
  subst e1 e2 e3
  obtain ⟨v2, H2, L2, s2, k1, k2⟩ := (After.to q3) p e s m args below meth c T' _ X' hx hZ hcode hm ho hnm hr hlk (Fr.app hF q1) q2 hc hsl
  exact ⟨v2, H2, L2, s2, st' _ k1, k2⟩
theorem afterS {r : Value} {H' : MH} (h : WP l Z a0 n0 R y code mx ret cells slots pc Ls (r :: st) H' Q) : After l Z a0 n0 R y code mx ret cells slots pc Ls st Q (some r) H' := h
theorem callS_1 {z : MethodName} {zc : ByteArray} {zm : Nat} {zr : Option FieldType} {ps : List FieldType} {i : Nat} {rm : Room} {pc' : Nat} (W : Nat) {v0 : Value} {rest : List Value} (w1 : (Cond.methodLink y.cls i z).before a0 Z = true) (w2 : (Cond.static z).before a0 Z = true) (w3 : (Cond.initialized z.cls).before a0 Z = true) (w4 : (Cond.code z zc zm zr).before a0 Z = true) (hy : z.cls ≠ "java/lang/invoke/MethodHandle" ∧ z.cls ≠ "java/lang/invoke/VarHandle") (hds : parseMethodDescriptor z.desc = some ⟨ps, zr⟩) (hlen : 1 = ps.length) (hd : decode code pc = .ok (.invokestatic i, 3)) (hs : Ls.length = mx) (hW : (rest.map fun v => v.category).sum = W) (hf : rm.frames + 1 ≤ R.frames) (hl : W + (zm + 11) + rm.locals ≤ R.locals) (hc : cells + rm.cells ≤ R.cells) (hsl : slots + rm.slots ≤ R.slots) (hp : pc + 3 = pc') {cells' slots' : Nat} (hc' : cells + rm.cells = cells') (hs' : slots + rm.slots = slots') (k : Con l Z a0 n0 z zc zm zr rm #[v0] H (After l Z a0 n0 R y code mx ret cells' slots' pc' Ls rest Q)) : WP l Z a0 n0 R y code mx ret cells slots pc Ls (v0 :: rest) H Q := callSG W [v0] w1 w2 w3 w4 hy hds hlen hd hs hW hf hl hc hsl hp hc' hs' rfl k
theorem callS_3 {z : MethodName} {zc : ByteArray} {zm : Nat} {zr : Option FieldType} {ps : List FieldType} {i : Nat} {rm : Room} {pc' : Nat} (W : Nat) {v0 v1 v2 : Value} {rest : List Value} (w1 : (Cond.methodLink y.cls i z).before a0 Z = true) (w2 : (Cond.static z).before a0 Z = true) (w3 : (Cond.initialized z.cls).before a0 Z = true) (w4 : (Cond.code z zc zm zr).before a0 Z = true) (hy : z.cls ≠ "java/lang/invoke/MethodHandle" ∧ z.cls ≠ "java/lang/invoke/VarHandle") (hds : parseMethodDescriptor z.desc = some ⟨ps, zr⟩) (hlen : 3 = ps.length) (hd : decode code pc = .ok (.invokestatic i, 3)) (hs : Ls.length = mx) (hW : (rest.map fun v => v.category).sum = W) (hf : rm.frames + 1 ≤ R.frames) (hl : W + (zm + 11) + rm.locals ≤ R.locals) (hc : cells + rm.cells ≤ R.cells) (hsl : slots + rm.slots ≤ R.slots) (hp : pc + 3 = pc') {cells' slots' : Nat} (hc' : cells + rm.cells = cells') (hs' : slots + rm.slots = slots') (k : Con l Z a0 n0 z zc zm zr rm #[v0, v1, v2] H (After l Z a0 n0 R y code mx ret cells' slots' pc' Ls rest Q)) : WP l Z a0 n0 R y code mx ret cells slots pc Ls (v2 :: v1 :: v0 :: rest) H Q := callSG W [v0, v1, v2] w1 w2 w3 w4 hy hds hlen hd hs hW hf hl hc hsl hp hc' hs' rfl k
end Jvm.Wp
namespace Jvm.Pilot.@@N@@
open Jvm Jvm.ClassFile Sem Op Lib Jvm.Free Jvm.Stand Jvm.LawKit Jvm.RoadKit Bundle Jvm.Pilot.@@N@@.Jvm.D
abbrev Hw (Z : State) (a0 : Array Value) : Prop := ∀ d ∈ tables_1, d.before a0 Z = true
theorem w0 {Z : State} {a0 : Array Value} (hw : Hw Z a0) : (Jvm.Cond.constant "com/example/reelcursor/reelcursor/util/XmlCharsIsNameStartCharPinLaw" (20 : Nat) (2097151 : Int32)).before a0 Z = true := hw _ (List.mem_of_getElem? (i := 0) rfl)
theorem w1 {Z : State} {a0 : Array Value} (hw : Hw Z a0) : (Jvm.Cond.methodLink "com/example/reelcursor/reelcursor/util/XmlCharsIsNameStartCharPinLaw" (21 : Nat) ({ cls := "com/example/reelcursor/reelcursor/util/XmlChars", name := "isNameStartChar", desc := "(I)Z" } : Jvm.MethodName)).before a0 Z = true := hw _ (List.mem_of_getElem? (i := 1) rfl)
theorem w2 {Z : State} {a0 : Array Value} (hw : Hw Z a0) : (Jvm.Cond.static ({ cls := "com/example/reelcursor/reelcursor/util/XmlChars", name := "isNameStartChar", desc := "(I)Z" } : Jvm.MethodName)).before a0 Z = true := hw _ (List.mem_of_getElem? (i := 2) rfl)
theorem w3 {Z : State} {a0 : Array Value} (hw : Hw Z a0) : (Jvm.Cond.initialized "com/example/reelcursor/reelcursor/util/XmlChars").before a0 Z = true := hw _ (List.mem_of_getElem? (i := 3) rfl)
theorem w4 {Z : State} {a0 : Array Value} (hw : Hw Z a0) : (Jvm.Cond.code ({ cls := "com/example/reelcursor/reelcursor/util/XmlChars", name := "isNameStartChar", desc := "(I)Z" } : Jvm.MethodName) prog_18_method_4_code (1 : Nat) (Option.some Jvm.ClassFile.FieldType.boolean)).before a0 Z = true := hw _ (List.mem_of_getElem? (i := 4) rfl)
theorem w5 {Z : State} {a0 : Array Value} (hw : Hw Z a0) : (Jvm.Cond.methodLink "com/example/reelcursor/reelcursor/util/XmlCharsIsNameStartCharPinLaw" (27 : Nat) ({ cls := "com/example/reelcursor/reelcursor/util/XmlCharsIsNameStartCharPinLaw", name := "reference", desc := "(I)Z" } : Jvm.MethodName)).before a0 Z = true := hw _ (List.mem_of_getElem? (i := 5) rfl)
theorem w6 {Z : State} {a0 : Array Value} (hw : Hw Z a0) : (Jvm.Cond.static ({ cls := "com/example/reelcursor/reelcursor/util/XmlCharsIsNameStartCharPinLaw", name := "reference", desc := "(I)Z" } : Jvm.MethodName)).before a0 Z = true := hw _ (List.mem_of_getElem? (i := 6) rfl)
theorem w7 {Z : State} {a0 : Array Value} (hw : Hw Z a0) : (Jvm.Cond.initialized "com/example/reelcursor/reelcursor/util/XmlCharsIsNameStartCharPinLaw").before a0 Z = true := hw _ (List.mem_of_getElem? (i := 7) rfl)
theorem w8 {Z : State} {a0 : Array Value} (hw : Hw Z a0) : (Jvm.Cond.code ({ cls := "com/example/reelcursor/reelcursor/util/XmlCharsIsNameStartCharPinLaw", name := "reference", desc := "(I)Z" } : Jvm.MethodName) method_3_code (3 : Nat) (Option.some Jvm.ClassFile.FieldType.boolean)).before a0 Z = true := hw _ (List.mem_of_getElem? (i := 8) rfl)
theorem w9 {Z : State} {a0 : Array Value} (hw : Hw Z a0) : (Jvm.Cond.methodLink "com/example/reelcursor/reelcursor/util/XmlCharsIsNameStartCharPinLaw" (7 : Nat) ({ cls := "com/example/reelcursor/reelcursor/util/XmlCharsIsNameStartCharPinLaw", name := "in", desc := "(III)Z" } : Jvm.MethodName)).before a0 Z = true := hw _ (List.mem_of_getElem? (i := 9) rfl)
theorem w10 {Z : State} {a0 : Array Value} (hw : Hw Z a0) : (Jvm.Cond.static ({ cls := "com/example/reelcursor/reelcursor/util/XmlCharsIsNameStartCharPinLaw", name := "in", desc := "(III)Z" } : Jvm.MethodName)).before a0 Z = true := hw _ (List.mem_of_getElem? (i := 10) rfl)
theorem w11 {Z : State} {a0 : Array Value} (hw : Hw Z a0) : (Jvm.Cond.code ({ cls := "com/example/reelcursor/reelcursor/util/XmlCharsIsNameStartCharPinLaw", name := "in", desc := "(III)Z" } : Jvm.MethodName) method_2_code (3 : Nat) (Option.some Jvm.ClassFile.FieldType.boolean)).before a0 Z = true := hw _ (List.mem_of_getElem? (i := 11) rfl)
theorem w12 {Z : State} {a0 : Array Value} (hw : Hw Z a0) : (Jvm.Cond.constant "com/example/reelcursor/reelcursor/util/XmlCharsIsNameStartCharPinLaw" (13 : Nat) (983039 : Int32)).before a0 Z = true := hw _ (List.mem_of_getElem? (i := 12) rfl)
theorem w13 {Z : State} {a0 : Array Value} (hw : Hw Z a0) : (Jvm.Cond.constant "com/example/reelcursor/reelcursor/util/XmlCharsIsNameStartCharPinLaw" (14 : Nat) (55296 : Int32)).before a0 Z = true := hw _ (List.mem_of_getElem? (i := 13) rfl)
theorem w14 {Z : State} {a0 : Array Value} (hw : Hw Z a0) : (Jvm.Cond.constant "com/example/reelcursor/reelcursor/util/XmlCharsIsNameStartCharPinLaw" (15 : Nat) (63743 : Int32)).before a0 Z = true := hw _ (List.mem_of_getElem? (i := 14) rfl)
theorem w15 {Z : State} {a0 : Array Value} (hw : Hw Z a0) : (Jvm.Cond.constant "com/example/reelcursor/reelcursor/util/XmlCharsIsNameStartCharPinLaw" (16 : Nat) (64976 : Int32)).before a0 Z = true := hw _ (List.mem_of_getElem? (i := 15) rfl)
theorem w16 {Z : State} {a0 : Array Value} (hw : Hw Z a0) : (Jvm.Cond.constant "com/example/reelcursor/reelcursor/util/XmlCharsIsNameStartCharPinLaw" (17 : Nat) (65007 : Int32)).before a0 Z = true := hw _ (List.mem_of_getElem? (i := 16) rfl)
theorem w17 {Z : State} {a0 : Array Value} (hw : Hw Z a0) : (Jvm.Cond.constant "com/example/reelcursor/reelcursor/util/XmlCharsIsNameStartCharPinLaw" (18 : Nat) (65534 : Int32)).before a0 Z = true := hw _ (List.mem_of_getElem? (i := 17) rfl)
theorem w18 {Z : State} {a0 : Array Value} (hw : Hw Z a0) : (Jvm.Cond.constant "com/example/reelcursor/reelcursor/util/XmlCharsIsNameStartCharPinLaw" (19 : Nat) (65535 : Int32)).before a0 Z = true := hw _ (List.mem_of_getElem? (i := 18) rfl)
theorem w19 {Z : State} {a0 : Array Value} (hw : Hw Z a0) : (Jvm.Cond.constant "com/example/reelcursor/reelcursor/util/XmlChars" (12 : Nat) (63744 : Int32)).before a0 Z = true := hw _ (List.mem_of_getElem? (i := 19) rfl)
theorem w20 {Z : State} {a0 : Array Value} (hw : Hw Z a0) : (Jvm.Cond.constant "com/example/reelcursor/reelcursor/util/XmlChars" (14 : Nat) (65008 : Int32)).before a0 Z = true := hw _ (List.mem_of_getElem? (i := 20) rfl)
theorem w21 {Z : State} {a0 : Array Value} (hw : Hw Z a0) : (Jvm.Cond.constant "com/example/reelcursor/reelcursor/util/XmlChars" (10 : Nat) (65536 : Int32)).before a0 Z = true := hw _ (List.mem_of_getElem? (i := 21) rfl)
theorem w22 {Z : State} {a0 : Array Value} (hw : Hw Z a0) : (Jvm.Cond.constant "com/example/reelcursor/reelcursor/util/XmlChars" (7 : Nat) (55295 : Int32)).before a0 Z = true := hw _ (List.mem_of_getElem? (i := 22) rfl)
theorem w23 {Z : State} {a0 : Array Value} (hw : Hw Z a0) : (Jvm.Cond.constant "com/example/reelcursor/reelcursor/util/XmlChars" (13 : Nat) (64975 : Int32)).before a0 Z = true := hw _ (List.mem_of_getElem? (i := 23) rfl)
theorem w24 {Z : State} {a0 : Array Value} (hw : Hw Z a0) : (Jvm.Cond.constant "com/example/reelcursor/reelcursor/util/XmlChars" (9 : Nat) (65533 : Int32)).before a0 Z = true := hw _ (List.mem_of_getElem? (i := 24) rfl)
theorem w25 {Z : State} {a0 : Array Value} (hw : Hw Z a0) : (Jvm.Cond.constant "com/example/reelcursor/reelcursor/util/XmlChars" (15 : Nat) (983039 : Int32)).before a0 Z = true := hw _ (List.mem_of_getElem? (i := 25) rfl)
theorem d1_0 : decode prog_18_method_4_code 0 = .ok (.iload_n 0, 1) := by decide +kernel
theorem d1_1 : decode prog_18_method_4_code 1 = .ok (.sipush 128, 3) := by decide +kernel
theorem d1_4 : decode prog_18_method_4_code 4 = .ok (.if_icmp .ge 45, 3) := by decide +kernel
theorem d1_7 : decode prog_18_method_4_code 7 = .ok (.iload_n 0, 1) := by decide +kernel
theorem d1_8 : decode prog_18_method_4_code 8 = .ok (.bipush 97, 2) := by decide +kernel
theorem d1_10 : decode prog_18_method_4_code 10 = .ok (.if_icmp .lt 9, 3) := by decide +kernel
theorem d1_13 : decode prog_18_method_4_code 13 = .ok (.iload_n 0, 1) := by decide +kernel
theorem d1_14 : decode prog_18_method_4_code 14 = .ok (.bipush 122, 2) := by decide +kernel
theorem d1_16 : decode prog_18_method_4_code 16 = .ok (.if_icmp .le 27, 3) := by decide +kernel
theorem d1_19 : decode prog_18_method_4_code 19 = .ok (.iload_n 0, 1) := by decide +kernel
theorem d1_20 : decode prog_18_method_4_code 20 = .ok (.bipush 65, 2) := by decide +kernel
theorem d1_22 : decode prog_18_method_4_code 22 = .ok (.if_icmp .lt 9, 3) := by decide +kernel
theorem d1_25 : decode prog_18_method_4_code 25 = .ok (.iload_n 0, 1) := by decide +kernel
theorem d1_26 : decode prog_18_method_4_code 26 = .ok (.bipush 90, 2) := by decide +kernel
theorem d1_28 : decode prog_18_method_4_code 28 = .ok (.if_icmp .le 15, 3) := by decide +kernel
theorem d1_31 : decode prog_18_method_4_code 31 = .ok (.iload_n 0, 1) := by decide +kernel
theorem d1_32 : decode prog_18_method_4_code 32 = .ok (.bipush 95, 2) := by decide +kernel
theorem d1_34 : decode prog_18_method_4_code 34 = .ok (.if_icmp .eq 9, 3) := by decide +kernel
theorem d1_37 : decode prog_18_method_4_code 37 = .ok (.iload_n 0, 1) := by decide +kernel
theorem d1_38 : decode prog_18_method_4_code 38 = .ok (.bipush 58, 2) := by decide +kernel
theorem d1_40 : decode prog_18_method_4_code 40 = .ok (.if_icmp .ne 7, 3) := by decide +kernel
theorem d1_43 : decode prog_18_method_4_code 43 = .ok (.iconst 1, 1) := by decide +kernel
theorem d1_44 : decode prog_18_method_4_code 44 = .ok (.goto 4, 3) := by decide +kernel
theorem d1_47 : decode prog_18_method_4_code 47 = .ok (.iconst 0, 1) := by decide +kernel
theorem d1_48 : decode prog_18_method_4_code 48 = .ok (.ireturn, 1) := by decide +kernel
theorem d1_49 : decode prog_18_method_4_code 49 = .ok (.iload_n 0, 1) := by decide +kernel
theorem d1_50 : decode prog_18_method_4_code 50 = .ok (.sipush 192, 3) := by decide +kernel
theorem d1_53 : decode prog_18_method_4_code 53 = .ok (.if_icmp .lt 10, 3) := by decide +kernel
theorem d1_56 : decode prog_18_method_4_code 56 = .ok (.iload_n 0, 1) := by decide +kernel
theorem d1_57 : decode prog_18_method_4_code 57 = .ok (.sipush 214, 3) := by decide +kernel
theorem d1_60 : decode prog_18_method_4_code 60 = .ok (.if_icmp .le 150, 3) := by decide +kernel
theorem d1_63 : decode prog_18_method_4_code 63 = .ok (.iload_n 0, 1) := by decide +kernel
theorem d1_64 : decode prog_18_method_4_code 64 = .ok (.sipush 216, 3) := by decide +kernel
theorem d1_67 : decode prog_18_method_4_code 67 = .ok (.if_icmp .lt 10, 3) := by decide +kernel
theorem d1_70 : decode prog_18_method_4_code 70 = .ok (.iload_n 0, 1) := by decide +kernel
theorem d1_71 : decode prog_18_method_4_code 71 = .ok (.sipush 246, 3) := by decide +kernel
theorem d1_74 : decode prog_18_method_4_code 74 = .ok (.if_icmp .le 136, 3) := by decide +kernel
theorem d1_77 : decode prog_18_method_4_code 77 = .ok (.iload_n 0, 1) := by decide +kernel
theorem d1_78 : decode prog_18_method_4_code 78 = .ok (.sipush 248, 3) := by decide +kernel
theorem d1_81 : decode prog_18_method_4_code 81 = .ok (.if_icmp .lt 10, 3) := by decide +kernel
theorem d1_84 : decode prog_18_method_4_code 84 = .ok (.iload_n 0, 1) := by decide +kernel
theorem d1_85 : decode prog_18_method_4_code 85 = .ok (.sipush 767, 3) := by decide +kernel
theorem d1_88 : decode prog_18_method_4_code 88 = .ok (.if_icmp .le 122, 3) := by decide +kernel
theorem d1_91 : decode prog_18_method_4_code 91 = .ok (.iload_n 0, 1) := by decide +kernel
theorem d1_92 : decode prog_18_method_4_code 92 = .ok (.sipush 880, 3) := by decide +kernel
theorem d1_95 : decode prog_18_method_4_code 95 = .ok (.if_icmp .lt 10, 3) := by decide +kernel
theorem d1_98 : decode prog_18_method_4_code 98 = .ok (.iload_n 0, 1) := by decide +kernel
theorem d1_99 : decode prog_18_method_4_code 99 = .ok (.sipush 893, 3) := by decide +kernel
theorem d1_102 : decode prog_18_method_4_code 102 = .ok (.if_icmp .le 108, 3) := by decide +kernel
theorem d1_105 : decode prog_18_method_4_code 105 = .ok (.iload_n 0, 1) := by decide +kernel
theorem d1_106 : decode prog_18_method_4_code 106 = .ok (.sipush 895, 3) := by decide +kernel
theorem d1_109 : decode prog_18_method_4_code 109 = .ok (.if_icmp .lt 10, 3) := by decide +kernel
theorem d1_112 : decode prog_18_method_4_code 112 = .ok (.iload_n 0, 1) := by decide +kernel
theorem d1_113 : decode prog_18_method_4_code 113 = .ok (.sipush 8191, 3) := by decide +kernel
theorem d1_116 : decode prog_18_method_4_code 116 = .ok (.if_icmp .le 94, 3) := by decide +kernel
theorem d1_119 : decode prog_18_method_4_code 119 = .ok (.iload_n 0, 1) := by decide +kernel
theorem d1_120 : decode prog_18_method_4_code 120 = .ok (.sipush 8204, 3) := by decide +kernel
theorem d1_123 : decode prog_18_method_4_code 123 = .ok (.if_icmp .eq 87, 3) := by decide +kernel
theorem d1_126 : decode prog_18_method_4_code 126 = .ok (.iload_n 0, 1) := by decide +kernel
theorem d1_127 : decode prog_18_method_4_code 127 = .ok (.sipush 8205, 3) := by decide +kernel
theorem d1_130 : decode prog_18_method_4_code 130 = .ok (.if_icmp .eq 80, 3) := by decide +kernel
theorem d1_133 : decode prog_18_method_4_code 133 = .ok (.iload_n 0, 1) := by decide +kernel
theorem d1_134 : decode prog_18_method_4_code 134 = .ok (.sipush 8304, 3) := by decide +kernel
theorem d1_137 : decode prog_18_method_4_code 137 = .ok (.if_icmp .lt 10, 3) := by decide +kernel
theorem d1_140 : decode prog_18_method_4_code 140 = .ok (.iload_n 0, 1) := by decide +kernel
theorem d1_141 : decode prog_18_method_4_code 141 = .ok (.sipush 8591, 3) := by decide +kernel
theorem d1_144 : decode prog_18_method_4_code 144 = .ok (.if_icmp .le 66, 3) := by decide +kernel
theorem d1_147 : decode prog_18_method_4_code 147 = .ok (.iload_n 0, 1) := by decide +kernel
theorem d1_148 : decode prog_18_method_4_code 148 = .ok (.sipush 11264, 3) := by decide +kernel
theorem d1_151 : decode prog_18_method_4_code 151 = .ok (.if_icmp .lt 10, 3) := by decide +kernel
theorem d1_154 : decode prog_18_method_4_code 154 = .ok (.iload_n 0, 1) := by decide +kernel
theorem d1_155 : decode prog_18_method_4_code 155 = .ok (.sipush 12271, 3) := by decide +kernel
theorem d1_158 : decode prog_18_method_4_code 158 = .ok (.if_icmp .le 52, 3) := by decide +kernel
theorem d1_161 : decode prog_18_method_4_code 161 = .ok (.iload_n 0, 1) := by decide +kernel
theorem d1_162 : decode prog_18_method_4_code 162 = .ok (.sipush 12289, 3) := by decide +kernel
theorem d1_165 : decode prog_18_method_4_code 165 = .ok (.if_icmp .lt 9, 3) := by decide +kernel
theorem d1_168 : decode prog_18_method_4_code 168 = .ok (.iload_n 0, 1) := by decide +kernel
theorem d1_169 : decode prog_18_method_4_code 169 = .ok (.ldc 7, 2) := by decide +kernel
theorem d1_171 : decode prog_18_method_4_code 171 = .ok (.if_icmp .le 39, 3) := by decide +kernel
theorem d1_174 : decode prog_18_method_4_code 174 = .ok (.iload_n 0, 1) := by decide +kernel
theorem d1_175 : decode prog_18_method_4_code 175 = .ok (.ldc 12, 2) := by decide +kernel
theorem d1_177 : decode prog_18_method_4_code 177 = .ok (.if_icmp .lt 9, 3) := by decide +kernel
theorem d1_180 : decode prog_18_method_4_code 180 = .ok (.iload_n 0, 1) := by decide +kernel
theorem d1_181 : decode prog_18_method_4_code 181 = .ok (.ldc 13, 2) := by decide +kernel
theorem d1_183 : decode prog_18_method_4_code 183 = .ok (.if_icmp .le 27, 3) := by decide +kernel
theorem d1_186 : decode prog_18_method_4_code 186 = .ok (.iload_n 0, 1) := by decide +kernel
theorem d1_187 : decode prog_18_method_4_code 187 = .ok (.ldc 14, 2) := by decide +kernel
theorem d1_189 : decode prog_18_method_4_code 189 = .ok (.if_icmp .lt 9, 3) := by decide +kernel
theorem d1_192 : decode prog_18_method_4_code 192 = .ok (.iload_n 0, 1) := by decide +kernel
theorem d1_193 : decode prog_18_method_4_code 193 = .ok (.ldc 9, 2) := by decide +kernel
theorem d1_195 : decode prog_18_method_4_code 195 = .ok (.if_icmp .le 15, 3) := by decide +kernel
theorem d1_198 : decode prog_18_method_4_code 198 = .ok (.iload_n 0, 1) := by decide +kernel
theorem d1_199 : decode prog_18_method_4_code 199 = .ok (.ldc 10, 2) := by decide +kernel
theorem d1_201 : decode prog_18_method_4_code 201 = .ok (.if_icmp .lt 13, 3) := by decide +kernel
theorem d1_204 : decode prog_18_method_4_code 204 = .ok (.iload_n 0, 1) := by decide +kernel
theorem d1_205 : decode prog_18_method_4_code 205 = .ok (.ldc 15, 2) := by decide +kernel
theorem d1_207 : decode prog_18_method_4_code 207 = .ok (.if_icmp .gt 7, 3) := by decide +kernel
theorem d1_210 : decode prog_18_method_4_code 210 = .ok (.iconst 1, 1) := by decide +kernel
theorem d1_211 : decode prog_18_method_4_code 211 = .ok (.goto 4, 3) := by decide +kernel
theorem d1_214 : decode prog_18_method_4_code 214 = .ok (.iconst 0, 1) := by decide +kernel
theorem d1_215 : decode prog_18_method_4_code 215 = .ok (.ireturn, 1) := by decide +kernel
theorem d2_0 : decode method_3_code 0 = .ok (.iload_n 0, 1) := by decide +kernel
theorem d2_1 : decode method_3_code 1 = .ok (.bipush 97, 2) := by decide +kernel
theorem d2_3 : decode method_3_code 3 = .ok (.bipush 122, 2) := by decide +kernel
theorem d2_5 : decode method_3_code 5 = .ok (.invokestatic 7, 3) := by decide +kernel
theorem d2_8 : decode method_3_code 8 = .ok (.ifCond .ne 26, 3) := by decide +kernel
theorem d2_11 : decode method_3_code 11 = .ok (.iload_n 0, 1) := by decide +kernel
theorem d2_12 : decode method_3_code 12 = .ok (.bipush 65, 2) := by decide +kernel
theorem d2_14 : decode method_3_code 14 = .ok (.bipush 90, 2) := by decide +kernel
theorem d2_16 : decode method_3_code 16 = .ok (.invokestatic 7, 3) := by decide +kernel
theorem d2_19 : decode method_3_code 19 = .ok (.ifCond .ne 15, 3) := by decide +kernel
theorem d2_22 : decode method_3_code 22 = .ok (.iload_n 0, 1) := by decide +kernel
theorem d2_23 : decode method_3_code 23 = .ok (.bipush 95, 2) := by decide +kernel
theorem d2_25 : decode method_3_code 25 = .ok (.if_icmp .eq 9, 3) := by decide +kernel
theorem d2_28 : decode method_3_code 28 = .ok (.iload_n 0, 1) := by decide +kernel
theorem d2_29 : decode method_3_code 29 = .ok (.bipush 58, 2) := by decide +kernel
theorem d2_31 : decode method_3_code 31 = .ok (.if_icmp .ne 7, 3) := by decide +kernel
theorem d2_34 : decode method_3_code 34 = .ok (.iconst 1, 1) := by decide +kernel
theorem d2_35 : decode method_3_code 35 = .ok (.goto 4, 3) := by decide +kernel
theorem d2_38 : decode method_3_code 38 = .ok (.iconst 0, 1) := by decide +kernel
theorem d2_39 : decode method_3_code 39 = .ok (.istore_n 1, 1) := by decide +kernel
theorem d2_40 : decode method_3_code 40 = .ok (.iload_n 1, 1) := by decide +kernel
theorem d2_41 : decode method_3_code 41 = .ok (.ifCond .eq 5, 3) := by decide +kernel
theorem d2_44 : decode method_3_code 44 = .ok (.iconst 1, 1) := by decide +kernel
theorem d2_45 : decode method_3_code 45 = .ok (.ireturn, 1) := by decide +kernel
theorem d2_46 : decode method_3_code 46 = .ok (.iload_n 0, 1) := by decide +kernel
theorem d2_47 : decode method_3_code 47 = .ok (.sipush 192, 3) := by decide +kernel
theorem d2_50 : decode method_3_code 50 = .ok (.ldc 13, 2) := by decide +kernel
theorem d2_52 : decode method_3_code 52 = .ok (.invokestatic 7, 3) := by decide +kernel
theorem d2_55 : decode method_3_code 55 = .ok (.ifCond .ne 5, 3) := by decide +kernel
theorem d2_58 : decode method_3_code 58 = .ok (.iconst 0, 1) := by decide +kernel
theorem d2_59 : decode method_3_code 59 = .ok (.ireturn, 1) := by decide +kernel
theorem d2_60 : decode method_3_code 60 = .ok (.iload_n 0, 1) := by decide +kernel
theorem d2_61 : decode method_3_code 61 = .ok (.sipush 215, 3) := by decide +kernel
theorem d2_64 : decode method_3_code 64 = .ok (.if_icmp .eq 115, 3) := by decide +kernel
theorem d2_67 : decode method_3_code 67 = .ok (.iload_n 0, 1) := by decide +kernel
theorem d2_68 : decode method_3_code 68 = .ok (.sipush 247, 3) := by decide +kernel
theorem d2_71 : decode method_3_code 71 = .ok (.if_icmp .eq 108, 3) := by decide +kernel
theorem d2_74 : decode method_3_code 74 = .ok (.iload_n 0, 1) := by decide +kernel
theorem d2_75 : decode method_3_code 75 = .ok (.sipush 768, 3) := by decide +kernel
theorem d2_78 : decode method_3_code 78 = .ok (.sipush 879, 3) := by decide +kernel
theorem d2_81 : decode method_3_code 81 = .ok (.invokestatic 7, 3) := by decide +kernel
theorem d2_84 : decode method_3_code 84 = .ok (.ifCond .ne 95, 3) := by decide +kernel
theorem d2_87 : decode method_3_code 87 = .ok (.iload_n 0, 1) := by decide +kernel
theorem d2_88 : decode method_3_code 88 = .ok (.sipush 894, 3) := by decide +kernel
theorem d2_91 : decode method_3_code 91 = .ok (.if_icmp .eq 88, 3) := by decide +kernel
theorem d2_94 : decode method_3_code 94 = .ok (.iload_n 0, 1) := by decide +kernel
theorem d2_95 : decode method_3_code 95 = .ok (.sipush 8192, 3) := by decide +kernel
theorem d2_98 : decode method_3_code 98 = .ok (.sipush 8203, 3) := by decide +kernel
theorem d2_101 : decode method_3_code 101 = .ok (.invokestatic 7, 3) := by decide +kernel
theorem d2_104 : decode method_3_code 104 = .ok (.ifCond .ne 75, 3) := by decide +kernel
theorem d2_107 : decode method_3_code 107 = .ok (.iload_n 0, 1) := by decide +kernel
theorem d2_108 : decode method_3_code 108 = .ok (.sipush 8206, 3) := by decide +kernel
theorem d2_111 : decode method_3_code 111 = .ok (.sipush 8303, 3) := by decide +kernel
theorem d2_114 : decode method_3_code 114 = .ok (.invokestatic 7, 3) := by decide +kernel
theorem d2_117 : decode method_3_code 117 = .ok (.ifCond .ne 62, 3) := by decide +kernel
theorem d2_120 : decode method_3_code 120 = .ok (.iload_n 0, 1) := by decide +kernel
theorem d2_121 : decode method_3_code 121 = .ok (.sipush 8592, 3) := by decide +kernel
theorem d2_124 : decode method_3_code 124 = .ok (.sipush 11263, 3) := by decide +kernel
theorem d2_127 : decode method_3_code 127 = .ok (.invokestatic 7, 3) := by decide +kernel
theorem d2_130 : decode method_3_code 130 = .ok (.ifCond .ne 49, 3) := by decide +kernel
theorem d2_133 : decode method_3_code 133 = .ok (.iload_n 0, 1) := by decide +kernel
theorem d2_134 : decode method_3_code 134 = .ok (.sipush 12272, 3) := by decide +kernel
theorem d2_137 : decode method_3_code 137 = .ok (.sipush 12288, 3) := by decide +kernel
theorem d2_140 : decode method_3_code 140 = .ok (.invokestatic 7, 3) := by decide +kernel
theorem d2_143 : decode method_3_code 143 = .ok (.ifCond .ne 36, 3) := by decide +kernel
theorem d2_146 : decode method_3_code 146 = .ok (.iload_n 0, 1) := by decide +kernel
theorem d2_147 : decode method_3_code 147 = .ok (.ldc 14, 2) := by decide +kernel
theorem d2_149 : decode method_3_code 149 = .ok (.ldc 15, 2) := by decide +kernel
theorem d2_151 : decode method_3_code 151 = .ok (.invokestatic 7, 3) := by decide +kernel
theorem d2_154 : decode method_3_code 154 = .ok (.ifCond .ne 25, 3) := by decide +kernel
theorem d2_157 : decode method_3_code 157 = .ok (.iload_n 0, 1) := by decide +kernel
theorem d2_158 : decode method_3_code 158 = .ok (.ldc 16, 2) := by decide +kernel
theorem d2_160 : decode method_3_code 160 = .ok (.ldc 17, 2) := by decide +kernel
theorem d2_162 : decode method_3_code 162 = .ok (.invokestatic 7, 3) := by decide +kernel
theorem d2_165 : decode method_3_code 165 = .ok (.ifCond .ne 14, 3) := by decide +kernel
theorem d2_168 : decode method_3_code 168 = .ok (.iload_n 0, 1) := by decide +kernel
theorem d2_169 : decode method_3_code 169 = .ok (.ldc 18, 2) := by decide +kernel
theorem d2_171 : decode method_3_code 171 = .ok (.ldc 19, 2) := by decide +kernel
theorem d2_173 : decode method_3_code 173 = .ok (.invokestatic 7, 3) := by decide +kernel
theorem d2_176 : decode method_3_code 176 = .ok (.ifCond .eq 7, 3) := by decide +kernel
theorem d2_179 : decode method_3_code 179 = .ok (.iconst 1, 1) := by decide +kernel
theorem d2_180 : decode method_3_code 180 = .ok (.goto 4, 3) := by decide +kernel
theorem d2_183 : decode method_3_code 183 = .ok (.iconst 0, 1) := by decide +kernel
theorem d2_184 : decode method_3_code 184 = .ok (.istore_n 2, 1) := by decide +kernel
theorem d2_185 : decode method_3_code 185 = .ok (.iload_n 2, 1) := by decide +kernel
theorem d2_186 : decode method_3_code 186 = .ok (.ifCond .ne 7, 3) := by decide +kernel
theorem d2_189 : decode method_3_code 189 = .ok (.iconst 1, 1) := by decide +kernel
theorem d2_190 : decode method_3_code 190 = .ok (.goto 4, 3) := by decide +kernel
theorem d2_193 : decode method_3_code 193 = .ok (.iconst 0, 1) := by decide +kernel
theorem d2_194 : decode method_3_code 194 = .ok (.ireturn, 1) := by decide +kernel
theorem d3_0 : decode method_2_code 0 = .ok (.iload_n 0, 1) := by decide +kernel
theorem d3_1 : decode method_2_code 1 = .ok (.iload_n 1, 1) := by decide +kernel
theorem d3_2 : decode method_2_code 2 = .ok (.if_icmp .lt 12, 3) := by decide +kernel
theorem d3_5 : decode method_2_code 5 = .ok (.iload_n 0, 1) := by decide +kernel
theorem d3_6 : decode method_2_code 6 = .ok (.iload_n 2, 1) := by decide +kernel
theorem d3_7 : decode method_2_code 7 = .ok (.if_icmp .gt 7, 3) := by decide +kernel
theorem d3_10 : decode method_2_code 10 = .ok (.iconst 1, 1) := by decide +kernel
theorem d3_11 : decode method_2_code 11 = .ok (.goto 4, 3) := by decide +kernel
theorem d3_14 : decode method_2_code 14 = .ok (.iconst 0, 1) := by decide +kernel
theorem d3_15 : decode method_2_code 15 = .ok (.ireturn, 1) := by decide +kernel
theorem pd0 : parseMethodDescriptor "(III)Z" = some ⟨[.int, .int, .int], some .boolean⟩ := by decide +kernel
theorem pd1 : parseMethodDescriptor "(I)Z" = some ⟨[.int], some .boolean⟩ := by decide +kernel
abbrev nm0 : MethodName := x
abbrev rm0 : Room := room_1
abbrev C0 (l : Launch) (Z : State) (a0 : Array Value) (n0 : Nat) := Wp.Con l Z a0 n0 nm0 code maxLocals ret rm0
abbrev W0 (l : Launch) (Z : State) (a0 : Array Value) (n0 : Nat) := Wp.WP l Z a0 n0 rm0 nm0 code maxLocals ret
theorem pn0 : plainName nm0.cls = true := by first | (simp [plainName, overriddenIn, nm0, x]; done) | decide +kernel
theorem ef0 (m : MethodId) (x0 : Int32) (x1 : Int32) : entryFrame m #[(.int x0), (.int x1)] maxLocals = mkF m 0 ⟨[.val (.int x0), .val (.int x1), .unset, .unset]⟩ [] := by first | rfl | (simp [entryFrame, mkF, argsToLocals, Value.category, maxLocals]; done)
abbrev nm1 : MethodName := ⟨"com/example/reelcursor/reelcursor/util/XmlChars", "isNameStartChar", "(I)Z"⟩
abbrev rm1 : Room := { frames := 0, cells := 0, slots := 0, locals := 0 }
abbrev C1 (l : Launch) (Z : State) (a0 : Array Value) (n0 : Nat) := Wp.Con l Z a0 n0 nm1 prog_18_method_4_code 1 (some .boolean) rm1
abbrev W1 (l : Launch) (Z : State) (a0 : Array Value) (n0 : Nat) := Wp.WP l Z a0 n0 rm1 nm1 prog_18_method_4_code 1 (some .boolean)
theorem pn1 : plainName nm1.cls = true := by first | (simp [plainName, overriddenIn, nm1, x]; done) | decide +kernel
theorem ef1 (m : MethodId) (x0 : Int32) : entryFrame m #[(.int x0)] 1 = mkF m 0 ⟨[.val (.int x0)]⟩ [] := by first | rfl | (simp [entryFrame, mkF, argsToLocals, Value.category]; done)
abbrev nm2 : MethodName := ⟨"com/example/reelcursor/reelcursor/util/XmlCharsIsNameStartCharPinLaw", "reference", "(I)Z"⟩
abbrev rm2 : Room := { frames := 1, cells := 0, slots := 0, locals := 14 }
abbrev C2 (l : Launch) (Z : State) (a0 : Array Value) (n0 : Nat) := Wp.Con l Z a0 n0 nm2 method_3_code 3 (some .boolean) rm2
abbrev W2 (l : Launch) (Z : State) (a0 : Array Value) (n0 : Nat) := Wp.WP l Z a0 n0 rm2 nm2 method_3_code 3 (some .boolean)
theorem pn2 : plainName nm2.cls = true := by first | (simp [plainName, overriddenIn, nm2, x]; done) | decide +kernel
theorem ef2 (m : MethodId) (x0 : Int32) : entryFrame m #[(.int x0)] 3 = mkF m 0 ⟨[.val (.int x0), .unset, .unset]⟩ [] := by first | rfl | (simp [entryFrame, mkF, argsToLocals, Value.category]; done)
abbrev nm3 : MethodName := ⟨"com/example/reelcursor/reelcursor/util/XmlCharsIsNameStartCharPinLaw", "in", "(III)Z"⟩
abbrev rm3 : Room := { frames := 0, cells := 0, slots := 0, locals := 0 }
abbrev C3 (l : Launch) (Z : State) (a0 : Array Value) (n0 : Nat) := Wp.Con l Z a0 n0 nm3 method_2_code 3 (some .boolean) rm3
abbrev W3 (l : Launch) (Z : State) (a0 : Array Value) (n0 : Nat) := Wp.WP l Z a0 n0 rm3 nm3 method_2_code 3 (some .boolean)
theorem pn3 : plainName nm3.cls = true := by first | (simp [plainName, overriddenIn, nm3, x]; done) | decide +kernel
theorem ef3 (m : MethodId) (x0 : Int32) (x1 : Int32) (x2 : Int32) : entryFrame m #[(.int x0), (.int x1), (.int x2)] 3 = mkF m 0 ⟨[.val (.int x0), .val (.int x1), .val (.int x2)]⟩ [] := by first | rfl | (simp [entryFrame, mkF, argsToLocals, Value.category]; done)
set_option maxRecDepth 65536
def own_ns (c : Int) : Bool := decide ((97 ≤ c ∧ c ≤ 122) ∨ (65 ≤ c ∧ c ≤ 90) ∨ (95 ≤ c ∧ c ≤ 95) ∨ (58 ≤ c ∧ c ≤ 58) ∨ (192 ≤ c ∧ c ≤ 214) ∨ (216 ≤ c ∧ c ≤ 246) ∨ (248 ≤ c ∧ c ≤ 767) ∨ (880 ≤ c ∧ c ≤ 893) ∨ (895 ≤ c ∧ c ≤ 8191) ∨ (8204 ≤ c ∧ c ≤ 8204) ∨ (8205 ≤ c ∧ c ≤ 8205) ∨ (8304 ≤ c ∧ c ≤ 8591) ∨ (11264 ≤ c ∧ c ≤ 12271) ∨ (12289 ≤ c ∧ c ≤ 55295) ∨ (63744 ≤ c ∧ c ≤ 64975) ∨ (65008 ≤ c ∧ c ≤ 65533) ∨ (65536 ≤ c ∧ c ≤ 983039))
def own_b (p : Bool) : Int32 := if p then 1 else 0
theorem own_b1 {p : Bool} (h : p = true) : (some (Value.int (1 &&& 1)) : Option Value) = some (.int (own_b p)) := by subst h; rfl
theorem own_b0 {p : Bool} (h : p = false) : (some (Value.int (0 &&& 1)) : Option Value) = some (.int (own_b p)) := by subst h; rfl
theorem con1 {l : Launch} {Z : State} {a0 : Array Value} {n0 : Nat} (hw : Hw Z a0) (c : Int32) (H : Wp.MH) :
    C1 l Z a0 n0 #[.int c] H (fun v H' => v = some (.int (own_b (own_ns c.toInt))) ∧ H' = H) := by
  refine Wp.Con.intro pn1 (fun m => ef1 m c) ?_
  generalize hQ : (fun (v : Option Value) (H' : Wp.MH) => v = some (.int (own_b (own_ns c.toInt))) ∧ H' = H) = Q
  have J31 : (c.toInt < 128 ∧ (c.toInt < 97 ∨ 122 < c.toInt) ∧ (c.toInt < 65 ∨ 90 < c.toInt)) → W1 l Z a0 n0 0 0 31 [.val (.int c)] [] H Q := by
    intro hJ
    refine Wp.iloadN (pc' := 32) d1_31 rfl rfl ?_
    refine Wp.bipush (95) (pc' := 34) d1_32 rfl rfl ?_
    refine Wp.icmp_eqI (pt := 43) (pf := 37) d1_34 (by decide) rfl (fun hc34 => ?_) (fun hc34 => ?_)
    · refine Wp.iconst (1) (pc' := 44) d1_43 rfl rfl ?_
      refine Wp.goto (pc' := 48) d1_44 (by decide) ?_
      refine Wp.zreturn rfl d1_48 ?_
      simp only [Int32.reduceToInt] at hc34
      subst hQ
      first | exact ⟨own_b1 (decide_eq_true (by omega)), rfl⟩ | exact ⟨own_b0 (decide_eq_false (by omega)), rfl⟩
    · refine Wp.iloadN (pc' := 38) d1_37 rfl rfl ?_
      refine Wp.bipush (58) (pc' := 40) d1_38 rfl rfl ?_
      refine Wp.icmp_neI (pt := 47) (pf := 43) d1_40 (by decide) rfl (fun hc40 => ?_) (fun hc40 => ?_)
      · refine Wp.iconst (0) (pc' := 48) d1_47 rfl rfl ?_
        refine Wp.zreturn rfl d1_48 ?_
        simp only [Int32.reduceToInt] at hc34 hc40
        subst hQ
        first | exact ⟨own_b1 (decide_eq_true (by omega)), rfl⟩ | exact ⟨own_b0 (decide_eq_false (by omega)), rfl⟩
      · refine Wp.iconst (1) (pc' := 44) d1_43 rfl rfl ?_
        refine Wp.goto (pc' := 48) d1_44 (by decide) ?_
        refine Wp.zreturn rfl d1_48 ?_
        simp only [Int32.reduceToInt] at hc34 hc40
        subst hQ
        first | exact ⟨own_b1 (decide_eq_true (by omega)), rfl⟩ | exact ⟨own_b0 (decide_eq_false (by omega)), rfl⟩
  have J19 : (c.toInt < 128 ∧ (c.toInt < 97 ∨ 122 < c.toInt)) → W1 l Z a0 n0 0 0 19 [.val (.int c)] [] H Q := by
    intro hJ
    refine Wp.iloadN (pc' := 20) d1_19 rfl rfl ?_
    refine Wp.bipush (65) (pc' := 22) d1_20 rfl rfl ?_
    refine Wp.icmp_lt (pt := 31) (pf := 25) d1_22 (by decide) rfl (fun hc22 => ?_) (fun hc22 => ?_)
    · exact J31 (by simp only [Int32.reduceToInt] at hc22; omega)
    · refine Wp.iloadN (pc' := 26) d1_25 rfl rfl ?_
      refine Wp.bipush (90) (pc' := 28) d1_26 rfl rfl ?_
      refine Wp.icmp_le (pt := 43) (pf := 31) d1_28 (by decide) rfl (fun hc28 => ?_) (fun hc28 => ?_)
      · refine Wp.iconst (1) (pc' := 44) d1_43 rfl rfl ?_
        refine Wp.goto (pc' := 48) d1_44 (by decide) ?_
        refine Wp.zreturn rfl d1_48 ?_
        simp only [Int32.reduceToInt] at hc22 hc28
        subst hQ
        first | exact ⟨own_b1 (decide_eq_true (by omega)), rfl⟩ | exact ⟨own_b0 (decide_eq_false (by omega)), rfl⟩
      · exact J31 (by simp only [Int32.reduceToInt] at hc22 hc28; omega)
  have J198 : (128 ≤ c.toInt ∧ (c.toInt < 192 ∨ 214 < c.toInt) ∧ (c.toInt < 216 ∨ 246 < c.toInt) ∧ (c.toInt < 248 ∨ 767 < c.toInt) ∧ (c.toInt < 880 ∨ 893 < c.toInt) ∧ (c.toInt < 895 ∨ 8191 < c.toInt) ∧ (c.toInt < 8204 ∨ 8204 < c.toInt) ∧ (c.toInt < 8205 ∨ 8205 < c.toInt) ∧ (c.toInt < 8304 ∨ 8591 < c.toInt) ∧ (c.toInt < 11264 ∨ 12271 < c.toInt) ∧ (c.toInt < 12289 ∨ 55295 < c.toInt) ∧ (c.toInt < 63744 ∨ 64975 < c.toInt) ∧ (c.toInt < 65008 ∨ 65533 < c.toInt)) → W1 l Z a0 n0 0 0 198 [.val (.int c)] [] H Q := by
    intro hJ
    refine Wp.iloadN (pc' := 199) d1_198 rfl rfl ?_
    refine Wp.ldcI (pc' := 201) (w21 hw) d1_199 rfl ?_
    refine Wp.icmp_lt (pt := 214) (pf := 204) d1_201 (by decide) rfl (fun hc201 => ?_) (fun hc201 => ?_)
    · refine Wp.iconst (0) (pc' := 215) d1_214 rfl rfl ?_
      refine Wp.zreturn rfl d1_215 ?_
      simp only [Int32.reduceToInt] at hc201
      subst hQ
      first | exact ⟨own_b1 (decide_eq_true (by omega)), rfl⟩ | exact ⟨own_b0 (decide_eq_false (by omega)), rfl⟩
    · refine Wp.iloadN (pc' := 205) d1_204 rfl rfl ?_
      refine Wp.ldcI (pc' := 207) (w25 hw) d1_205 rfl ?_
      refine Wp.icmp_gt (pt := 214) (pf := 210) d1_207 (by decide) rfl (fun hc207 => ?_) (fun hc207 => ?_)
      · refine Wp.iconst (0) (pc' := 215) d1_214 rfl rfl ?_
        refine Wp.zreturn rfl d1_215 ?_
        simp only [Int32.reduceToInt] at hc201 hc207
        subst hQ
        first | exact ⟨own_b1 (decide_eq_true (by omega)), rfl⟩ | exact ⟨own_b0 (decide_eq_false (by omega)), rfl⟩
      · refine Wp.iconst (1) (pc' := 211) d1_210 rfl rfl ?_
        refine Wp.goto (pc' := 215) d1_211 (by decide) ?_
        refine Wp.zreturn rfl d1_215 ?_
        simp only [Int32.reduceToInt] at hc201 hc207
        subst hQ
        first | exact ⟨own_b1 (decide_eq_true (by omega)), rfl⟩ | exact ⟨own_b0 (decide_eq_false (by omega)), rfl⟩
  have J186 : (128 ≤ c.toInt ∧ (c.toInt < 192 ∨ 214 < c.toInt) ∧ (c.toInt < 216 ∨ 246 < c.toInt) ∧ (c.toInt < 248 ∨ 767 < c.toInt) ∧ (c.toInt < 880 ∨ 893 < c.toInt) ∧ (c.toInt < 895 ∨ 8191 < c.toInt) ∧ (c.toInt < 8204 ∨ 8204 < c.toInt) ∧ (c.toInt < 8205 ∨ 8205 < c.toInt) ∧ (c.toInt < 8304 ∨ 8591 < c.toInt) ∧ (c.toInt < 11264 ∨ 12271 < c.toInt) ∧ (c.toInt < 12289 ∨ 55295 < c.toInt) ∧ (c.toInt < 63744 ∨ 64975 < c.toInt)) → W1 l Z a0 n0 0 0 186 [.val (.int c)] [] H Q := by
    intro hJ
    refine Wp.iloadN (pc' := 187) d1_186 rfl rfl ?_
    refine Wp.ldcI (pc' := 189) (w20 hw) d1_187 rfl ?_
    refine Wp.icmp_lt (pt := 198) (pf := 192) d1_189 (by decide) rfl (fun hc189 => ?_) (fun hc189 => ?_)
    · exact J198 (by simp only [Int32.reduceToInt] at hc189; omega)
    · refine Wp.iloadN (pc' := 193) d1_192 rfl rfl ?_
      refine Wp.ldcI (pc' := 195) (w24 hw) d1_193 rfl ?_
      refine Wp.icmp_le (pt := 210) (pf := 198) d1_195 (by decide) rfl (fun hc195 => ?_) (fun hc195 => ?_)
      · refine Wp.iconst (1) (pc' := 211) d1_210 rfl rfl ?_
        refine Wp.goto (pc' := 215) d1_211 (by decide) ?_
        refine Wp.zreturn rfl d1_215 ?_
        simp only [Int32.reduceToInt] at hc189 hc195
        subst hQ
        first | exact ⟨own_b1 (decide_eq_true (by omega)), rfl⟩ | exact ⟨own_b0 (decide_eq_false (by omega)), rfl⟩
      · exact J198 (by simp only [Int32.reduceToInt] at hc189 hc195; omega)
  have J174 : (128 ≤ c.toInt ∧ (c.toInt < 192 ∨ 214 < c.toInt) ∧ (c.toInt < 216 ∨ 246 < c.toInt) ∧ (c.toInt < 248 ∨ 767 < c.toInt) ∧ (c.toInt < 880 ∨ 893 < c.toInt) ∧ (c.toInt < 895 ∨ 8191 < c.toInt) ∧ (c.toInt < 8204 ∨ 8204 < c.toInt) ∧ (c.toInt < 8205 ∨ 8205 < c.toInt) ∧ (c.toInt < 8304 ∨ 8591 < c.toInt) ∧ (c.toInt < 11264 ∨ 12271 < c.toInt) ∧ (c.toInt < 12289 ∨ 55295 < c.toInt)) → W1 l Z a0 n0 0 0 174 [.val (.int c)] [] H Q := by
    intro hJ
    refine Wp.iloadN (pc' := 175) d1_174 rfl rfl ?_
    refine Wp.ldcI (pc' := 177) (w19 hw) d1_175 rfl ?_
    refine Wp.icmp_lt (pt := 186) (pf := 180) d1_177 (by decide) rfl (fun hc177 => ?_) (fun hc177 => ?_)
    · exact J186 (by simp only [Int32.reduceToInt] at hc177; omega)
    · refine Wp.iloadN (pc' := 181) d1_180 rfl rfl ?_
      refine Wp.ldcI (pc' := 183) (w23 hw) d1_181 rfl ?_
      refine Wp.icmp_le (pt := 210) (pf := 186) d1_183 (by decide) rfl (fun hc183 => ?_) (fun hc183 => ?_)
      · refine Wp.iconst (1) (pc' := 211) d1_210 rfl rfl ?_
        refine Wp.goto (pc' := 215) d1_211 (by decide) ?_
        refine Wp.zreturn rfl d1_215 ?_
        simp only [Int32.reduceToInt] at hc177 hc183
        subst hQ
        first | exact ⟨own_b1 (decide_eq_true (by omega)), rfl⟩ | exact ⟨own_b0 (decide_eq_false (by omega)), rfl⟩
      · exact J186 (by simp only [Int32.reduceToInt] at hc177 hc183; omega)
  have J161 : (128 ≤ c.toInt ∧ (c.toInt < 192 ∨ 214 < c.toInt) ∧ (c.toInt < 216 ∨ 246 < c.toInt) ∧ (c.toInt < 248 ∨ 767 < c.toInt) ∧ (c.toInt < 880 ∨ 893 < c.toInt) ∧ (c.toInt < 895 ∨ 8191 < c.toInt) ∧ (c.toInt < 8204 ∨ 8204 < c.toInt) ∧ (c.toInt < 8205 ∨ 8205 < c.toInt) ∧ (c.toInt < 8304 ∨ 8591 < c.toInt) ∧ (c.toInt < 11264 ∨ 12271 < c.toInt)) → W1 l Z a0 n0 0 0 161 [.val (.int c)] [] H Q := by
    intro hJ
    refine Wp.iloadN (pc' := 162) d1_161 rfl rfl ?_
    refine Wp.sipush (12289) (pc' := 165) d1_162 rfl rfl ?_
    refine Wp.icmp_lt (pt := 174) (pf := 168) d1_165 (by decide) rfl (fun hc165 => ?_) (fun hc165 => ?_)
    · exact J174 (by simp only [Int32.reduceToInt] at hc165; omega)
    · refine Wp.iloadN (pc' := 169) d1_168 rfl rfl ?_
      refine Wp.ldcI (pc' := 171) (w22 hw) d1_169 rfl ?_
      refine Wp.icmp_le (pt := 210) (pf := 174) d1_171 (by decide) rfl (fun hc171 => ?_) (fun hc171 => ?_)
      · refine Wp.iconst (1) (pc' := 211) d1_210 rfl rfl ?_
        refine Wp.goto (pc' := 215) d1_211 (by decide) ?_
        refine Wp.zreturn rfl d1_215 ?_
        simp only [Int32.reduceToInt] at hc165 hc171
        subst hQ
        first | exact ⟨own_b1 (decide_eq_true (by omega)), rfl⟩ | exact ⟨own_b0 (decide_eq_false (by omega)), rfl⟩
      · exact J174 (by simp only [Int32.reduceToInt] at hc165 hc171; omega)
  have J147 : (128 ≤ c.toInt ∧ (c.toInt < 192 ∨ 214 < c.toInt) ∧ (c.toInt < 216 ∨ 246 < c.toInt) ∧ (c.toInt < 248 ∨ 767 < c.toInt) ∧ (c.toInt < 880 ∨ 893 < c.toInt) ∧ (c.toInt < 895 ∨ 8191 < c.toInt) ∧ (c.toInt < 8204 ∨ 8204 < c.toInt) ∧ (c.toInt < 8205 ∨ 8205 < c.toInt) ∧ (c.toInt < 8304 ∨ 8591 < c.toInt)) → W1 l Z a0 n0 0 0 147 [.val (.int c)] [] H Q := by
    intro hJ
    refine Wp.iloadN (pc' := 148) d1_147 rfl rfl ?_
    refine Wp.sipush (11264) (pc' := 151) d1_148 rfl rfl ?_
    refine Wp.icmp_lt (pt := 161) (pf := 154) d1_151 (by decide) rfl (fun hc151 => ?_) (fun hc151 => ?_)
    · exact J161 (by simp only [Int32.reduceToInt] at hc151; omega)
    · refine Wp.iloadN (pc' := 155) d1_154 rfl rfl ?_
      refine Wp.sipush (12271) (pc' := 158) d1_155 rfl rfl ?_
      refine Wp.icmp_le (pt := 210) (pf := 161) d1_158 (by decide) rfl (fun hc158 => ?_) (fun hc158 => ?_)
      · refine Wp.iconst (1) (pc' := 211) d1_210 rfl rfl ?_
        refine Wp.goto (pc' := 215) d1_211 (by decide) ?_
        refine Wp.zreturn rfl d1_215 ?_
        simp only [Int32.reduceToInt] at hc151 hc158
        subst hQ
        first | exact ⟨own_b1 (decide_eq_true (by omega)), rfl⟩ | exact ⟨own_b0 (decide_eq_false (by omega)), rfl⟩
      · exact J161 (by simp only [Int32.reduceToInt] at hc151 hc158; omega)
  have J133 : (128 ≤ c.toInt ∧ (c.toInt < 192 ∨ 214 < c.toInt) ∧ (c.toInt < 216 ∨ 246 < c.toInt) ∧ (c.toInt < 248 ∨ 767 < c.toInt) ∧ (c.toInt < 880 ∨ 893 < c.toInt) ∧ (c.toInt < 895 ∨ 8191 < c.toInt) ∧ (c.toInt < 8204 ∨ 8204 < c.toInt) ∧ (c.toInt < 8205 ∨ 8205 < c.toInt)) → W1 l Z a0 n0 0 0 133 [.val (.int c)] [] H Q := by
    intro hJ
    refine Wp.iloadN (pc' := 134) d1_133 rfl rfl ?_
    refine Wp.sipush (8304) (pc' := 137) d1_134 rfl rfl ?_
    refine Wp.icmp_lt (pt := 147) (pf := 140) d1_137 (by decide) rfl (fun hc137 => ?_) (fun hc137 => ?_)
    · exact J147 (by simp only [Int32.reduceToInt] at hc137; omega)
    · refine Wp.iloadN (pc' := 141) d1_140 rfl rfl ?_
      refine Wp.sipush (8591) (pc' := 144) d1_141 rfl rfl ?_
      refine Wp.icmp_le (pt := 210) (pf := 147) d1_144 (by decide) rfl (fun hc144 => ?_) (fun hc144 => ?_)
      · refine Wp.iconst (1) (pc' := 211) d1_210 rfl rfl ?_
        refine Wp.goto (pc' := 215) d1_211 (by decide) ?_
        refine Wp.zreturn rfl d1_215 ?_
        simp only [Int32.reduceToInt] at hc137 hc144
        subst hQ
        first | exact ⟨own_b1 (decide_eq_true (by omega)), rfl⟩ | exact ⟨own_b0 (decide_eq_false (by omega)), rfl⟩
      · exact J147 (by simp only [Int32.reduceToInt] at hc137 hc144; omega)
  have J119 : (128 ≤ c.toInt ∧ (c.toInt < 192 ∨ 214 < c.toInt) ∧ (c.toInt < 216 ∨ 246 < c.toInt) ∧ (c.toInt < 248 ∨ 767 < c.toInt) ∧ (c.toInt < 880 ∨ 893 < c.toInt) ∧ (c.toInt < 895 ∨ 8191 < c.toInt)) → W1 l Z a0 n0 0 0 119 [.val (.int c)] [] H Q := by
    intro hJ
    refine Wp.iloadN (pc' := 120) d1_119 rfl rfl ?_
    refine Wp.sipush (8204) (pc' := 123) d1_120 rfl rfl ?_
    refine Wp.icmp_eqI (pt := 210) (pf := 126) d1_123 (by decide) rfl (fun hc123 => ?_) (fun hc123 => ?_)
    · refine Wp.iconst (1) (pc' := 211) d1_210 rfl rfl ?_
      refine Wp.goto (pc' := 215) d1_211 (by decide) ?_
      refine Wp.zreturn rfl d1_215 ?_
      simp only [Int32.reduceToInt] at hc123
      subst hQ
      first | exact ⟨own_b1 (decide_eq_true (by omega)), rfl⟩ | exact ⟨own_b0 (decide_eq_false (by omega)), rfl⟩
    · refine Wp.iloadN (pc' := 127) d1_126 rfl rfl ?_
      refine Wp.sipush (8205) (pc' := 130) d1_127 rfl rfl ?_
      refine Wp.icmp_eqI (pt := 210) (pf := 133) d1_130 (by decide) rfl (fun hc130 => ?_) (fun hc130 => ?_)
      · refine Wp.iconst (1) (pc' := 211) d1_210 rfl rfl ?_
        refine Wp.goto (pc' := 215) d1_211 (by decide) ?_
        refine Wp.zreturn rfl d1_215 ?_
        simp only [Int32.reduceToInt] at hc123 hc130
        subst hQ
        first | exact ⟨own_b1 (decide_eq_true (by omega)), rfl⟩ | exact ⟨own_b0 (decide_eq_false (by omega)), rfl⟩
      · exact J133 (by simp only [Int32.reduceToInt] at hc123 hc130; omega)
  have J105 : (128 ≤ c.toInt ∧ (c.toInt < 192 ∨ 214 < c.toInt) ∧ (c.toInt < 216 ∨ 246 < c.toInt) ∧ (c.toInt < 248 ∨ 767 < c.toInt) ∧ (c.toInt < 880 ∨ 893 < c.toInt)) → W1 l Z a0 n0 0 0 105 [.val (.int c)] [] H Q := by
    intro hJ
    refine Wp.iloadN (pc' := 106) d1_105 rfl rfl ?_
    refine Wp.sipush (895) (pc' := 109) d1_106 rfl rfl ?_
    refine Wp.icmp_lt (pt := 119) (pf := 112) d1_109 (by decide) rfl (fun hc109 => ?_) (fun hc109 => ?_)
    · exact J119 (by simp only [Int32.reduceToInt] at hc109; omega)
    · refine Wp.iloadN (pc' := 113) d1_112 rfl rfl ?_
      refine Wp.sipush (8191) (pc' := 116) d1_113 rfl rfl ?_
      refine Wp.icmp_le (pt := 210) (pf := 119) d1_116 (by decide) rfl (fun hc116 => ?_) (fun hc116 => ?_)
      · refine Wp.iconst (1) (pc' := 211) d1_210 rfl rfl ?_
        refine Wp.goto (pc' := 215) d1_211 (by decide) ?_
        refine Wp.zreturn rfl d1_215 ?_
        simp only [Int32.reduceToInt] at hc109 hc116
        subst hQ
        first | exact ⟨own_b1 (decide_eq_true (by omega)), rfl⟩ | exact ⟨own_b0 (decide_eq_false (by omega)), rfl⟩
      · exact J119 (by simp only [Int32.reduceToInt] at hc109 hc116; omega)
  have J91 : (128 ≤ c.toInt ∧ (c.toInt < 192 ∨ 214 < c.toInt) ∧ (c.toInt < 216 ∨ 246 < c.toInt) ∧ (c.toInt < 248 ∨ 767 < c.toInt)) → W1 l Z a0 n0 0 0 91 [.val (.int c)] [] H Q := by
    intro hJ
    refine Wp.iloadN (pc' := 92) d1_91 rfl rfl ?_
    refine Wp.sipush (880) (pc' := 95) d1_92 rfl rfl ?_
    refine Wp.icmp_lt (pt := 105) (pf := 98) d1_95 (by decide) rfl (fun hc95 => ?_) (fun hc95 => ?_)
    · exact J105 (by simp only [Int32.reduceToInt] at hc95; omega)
    · refine Wp.iloadN (pc' := 99) d1_98 rfl rfl ?_
      refine Wp.sipush (893) (pc' := 102) d1_99 rfl rfl ?_
      refine Wp.icmp_le (pt := 210) (pf := 105) d1_102 (by decide) rfl (fun hc102 => ?_) (fun hc102 => ?_)
      · refine Wp.iconst (1) (pc' := 211) d1_210 rfl rfl ?_
        refine Wp.goto (pc' := 215) d1_211 (by decide) ?_
        refine Wp.zreturn rfl d1_215 ?_
        simp only [Int32.reduceToInt] at hc95 hc102
        subst hQ
        first | exact ⟨own_b1 (decide_eq_true (by omega)), rfl⟩ | exact ⟨own_b0 (decide_eq_false (by omega)), rfl⟩
      · exact J105 (by simp only [Int32.reduceToInt] at hc95 hc102; omega)
  have J77 : (128 ≤ c.toInt ∧ (c.toInt < 192 ∨ 214 < c.toInt) ∧ (c.toInt < 216 ∨ 246 < c.toInt)) → W1 l Z a0 n0 0 0 77 [.val (.int c)] [] H Q := by
    intro hJ
    refine Wp.iloadN (pc' := 78) d1_77 rfl rfl ?_
    refine Wp.sipush (248) (pc' := 81) d1_78 rfl rfl ?_
    refine Wp.icmp_lt (pt := 91) (pf := 84) d1_81 (by decide) rfl (fun hc81 => ?_) (fun hc81 => ?_)
    · exact J91 (by simp only [Int32.reduceToInt] at hc81; omega)
    · refine Wp.iloadN (pc' := 85) d1_84 rfl rfl ?_
      refine Wp.sipush (767) (pc' := 88) d1_85 rfl rfl ?_
      refine Wp.icmp_le (pt := 210) (pf := 91) d1_88 (by decide) rfl (fun hc88 => ?_) (fun hc88 => ?_)
      · refine Wp.iconst (1) (pc' := 211) d1_210 rfl rfl ?_
        refine Wp.goto (pc' := 215) d1_211 (by decide) ?_
        refine Wp.zreturn rfl d1_215 ?_
        simp only [Int32.reduceToInt] at hc81 hc88
        subst hQ
        first | exact ⟨own_b1 (decide_eq_true (by omega)), rfl⟩ | exact ⟨own_b0 (decide_eq_false (by omega)), rfl⟩
      · exact J91 (by simp only [Int32.reduceToInt] at hc81 hc88; omega)
  have J63 : (128 ≤ c.toInt ∧ (c.toInt < 192 ∨ 214 < c.toInt)) → W1 l Z a0 n0 0 0 63 [.val (.int c)] [] H Q := by
    intro hJ
    refine Wp.iloadN (pc' := 64) d1_63 rfl rfl ?_
    refine Wp.sipush (216) (pc' := 67) d1_64 rfl rfl ?_
    refine Wp.icmp_lt (pt := 77) (pf := 70) d1_67 (by decide) rfl (fun hc67 => ?_) (fun hc67 => ?_)
    · exact J77 (by simp only [Int32.reduceToInt] at hc67; omega)
    · refine Wp.iloadN (pc' := 71) d1_70 rfl rfl ?_
      refine Wp.sipush (246) (pc' := 74) d1_71 rfl rfl ?_
      refine Wp.icmp_le (pt := 210) (pf := 77) d1_74 (by decide) rfl (fun hc74 => ?_) (fun hc74 => ?_)
      · refine Wp.iconst (1) (pc' := 211) d1_210 rfl rfl ?_
        refine Wp.goto (pc' := 215) d1_211 (by decide) ?_
        refine Wp.zreturn rfl d1_215 ?_
        simp only [Int32.reduceToInt] at hc67 hc74
        subst hQ
        first | exact ⟨own_b1 (decide_eq_true (by omega)), rfl⟩ | exact ⟨own_b0 (decide_eq_false (by omega)), rfl⟩
      · exact J77 (by simp only [Int32.reduceToInt] at hc67 hc74; omega)
  refine Wp.iloadN (pc' := 1) d1_0 rfl rfl ?_
  refine Wp.sipush (128) (pc' := 4) d1_1 rfl rfl ?_
  refine Wp.icmp_ge (pt := 49) (pf := 7) d1_4 (by decide) rfl (fun hc4 => ?_) (fun hc4 => ?_)
  · refine Wp.iloadN (pc' := 50) d1_49 rfl rfl ?_
    refine Wp.sipush (192) (pc' := 53) d1_50 rfl rfl ?_
    refine Wp.icmp_lt (pt := 63) (pf := 56) d1_53 (by decide) rfl (fun hc53 => ?_) (fun hc53 => ?_)
    · exact J63 (by simp only [Int32.reduceToInt] at hc4 hc53; omega)
    · refine Wp.iloadN (pc' := 57) d1_56 rfl rfl ?_
      refine Wp.sipush (214) (pc' := 60) d1_57 rfl rfl ?_
      refine Wp.icmp_le (pt := 210) (pf := 63) d1_60 (by decide) rfl (fun hc60 => ?_) (fun hc60 => ?_)
      · refine Wp.iconst (1) (pc' := 211) d1_210 rfl rfl ?_
        refine Wp.goto (pc' := 215) d1_211 (by decide) ?_
        refine Wp.zreturn rfl d1_215 ?_
        simp only [Int32.reduceToInt] at hc4 hc53 hc60
        subst hQ
        first | exact ⟨own_b1 (decide_eq_true (by omega)), rfl⟩ | exact ⟨own_b0 (decide_eq_false (by omega)), rfl⟩
      · exact J63 (by simp only [Int32.reduceToInt] at hc4 hc53 hc60; omega)
  · refine Wp.iloadN (pc' := 8) d1_7 rfl rfl ?_
    refine Wp.bipush (97) (pc' := 10) d1_8 rfl rfl ?_
    refine Wp.icmp_lt (pt := 19) (pf := 13) d1_10 (by decide) rfl (fun hc10 => ?_) (fun hc10 => ?_)
    · exact J19 (by simp only [Int32.reduceToInt] at hc4 hc10; omega)
    · refine Wp.iloadN (pc' := 14) d1_13 rfl rfl ?_
      refine Wp.bipush (122) (pc' := 16) d1_14 rfl rfl ?_
      refine Wp.icmp_le (pt := 43) (pf := 19) d1_16 (by decide) rfl (fun hc16 => ?_) (fun hc16 => ?_)
      · refine Wp.iconst (1) (pc' := 44) d1_43 rfl rfl ?_
        refine Wp.goto (pc' := 48) d1_44 (by decide) ?_
        refine Wp.zreturn rfl d1_48 ?_
        simp only [Int32.reduceToInt] at hc4 hc10 hc16
        subst hQ
        first | exact ⟨own_b1 (decide_eq_true (by omega)), rfl⟩ | exact ⟨own_b0 (decide_eq_false (by omega)), rfl⟩
      · exact J19 (by simp only [Int32.reduceToInt] at hc4 hc10 hc16; omega)
theorem con3 {l : Launch} {Z : State} {a0 : Array Value} {n0 : Nat} (hw : Hw Z a0) (c lo hi : Int32) (H : Wp.MH) :
    C3 l Z a0 n0 #[.int c, .int lo, .int hi] H (fun v H' => v = some (.int (own_b (decide (lo.toInt ≤ c.toInt ∧ c.toInt ≤ hi.toInt)))) ∧ H' = H) := by
  refine Wp.Con.intro pn3 (fun m => ef3 m c lo hi) ?_
  refine Wp.iloadN (pc' := 1) d3_0 rfl rfl ?_
  refine Wp.iloadN (pc' := 2) d3_1 rfl rfl ?_
  refine Wp.icmp_lt (pt := 14) (pf := 5) d3_2 (by decide) rfl (fun hc2 => ?_) (fun hc2 => ?_)
  · refine Wp.iconst (0) (pc' := 15) d3_14 rfl rfl ?_
    refine Wp.zreturn rfl d3_15 ?_
    first | exact ⟨own_b1 (decide_eq_true (by omega)), rfl⟩ | exact ⟨own_b0 (decide_eq_false (by omega)), rfl⟩
  · refine Wp.iloadN (pc' := 6) d3_5 rfl rfl ?_
    refine Wp.iloadN (pc' := 7) d3_6 rfl rfl ?_
    refine Wp.icmp_gt (pt := 14) (pf := 10) d3_7 (by decide) rfl (fun hc7 => ?_) (fun hc7 => ?_)
    · refine Wp.iconst (0) (pc' := 15) d3_14 rfl rfl ?_
      refine Wp.zreturn rfl d3_15 ?_
      first | exact ⟨own_b1 (decide_eq_true (by omega)), rfl⟩ | exact ⟨own_b0 (decide_eq_false (by omega)), rfl⟩
    · refine Wp.iconst (1) (pc' := 11) d3_10 rfl rfl ?_
      refine Wp.goto (pc' := 15) d3_11 (by decide) ?_
      refine Wp.zreturn rfl d3_15 ?_
      first | exact ⟨own_b1 (decide_eq_true (by omega)), rfl⟩ | exact ⟨own_b0 (decide_eq_false (by omega)), rfl⟩
theorem own_bz {p : Prop} [Decidable p] : (own_b (decide p) = 0 → ¬ p) ∧ (¬ own_b (decide p) = 0 → p) := by
  by_cases h : p <;> simp [own_b, h]
theorem own_bez {p : Prop} [Decidable p] : ((own_b (decide p)).toInt = 0) = ¬ p := by
  by_cases h : p <;> simp [own_b, h]
theorem own_bne {p : Prop} [Decidable p] : ((own_b (decide p)).toInt ≠ 0) = p := by
  by_cases h : p <;> simp [own_b, h]
theorem con2 {l : Launch} {Z : State} {a0 : Array Value} {n0 : Nat} (hw : Hw Z a0) (c : Int32) (H : Wp.MH) :
    C2 l Z a0 n0 #[.int c] H (fun v H' => v = some (.int (own_b (own_ns c.toInt))) ∧ H' = H) := by
  refine Wp.Con.intro pn2 (fun m => ef2 m c) ?_
  generalize hQ : (fun (v : Option Value) (H' : Wp.MH) => v = some (.int (own_b (own_ns c.toInt))) ∧ H' = H) = Q
  have K184 : ∀ b : Bool, (c.toInt < 65 ∨ 90 < c.toInt) ∧ (c.toInt < 97 ∨ 122 < c.toInt) ∧ c.toInt ≠ 95 ∧ c.toInt ≠ 58 ∧ 192 ≤ c.toInt ∧ c.toInt ≤ 983039 → b = !own_ns c.toInt → ∀ o : Slot, Wp.ok1 o = true → W2 l Z a0 n0 0 0 184 [.val (.int c), .val (.int 0), o] [.int (own_b b)] H Q := by
    intro b hJ hb o ho
    subst hb
    refine Wp.istoreN_2 (pc' := 185) d2_184 ho rfl ?_
    refine Wp.iloadN (pc' := 186) d2_185 rfl rfl ?_
    refine Wp.if_ne (pt := 193) (pf := 189) d2_186 (by decide) rfl (fun hc186 => ?_) (fun hc186 => ?_)
    · refine Wp.iconst (0) (pc' := 194) d2_193 rfl rfl ?_
      refine Wp.zreturn rfl d2_194 ?_
      subst hQ
      refine ⟨?_, rfl⟩
      revert hc186
      cases own_ns c.toInt <;> simp [own_b]
    · refine Wp.iconst (1) (pc' := 190) d2_189 rfl rfl ?_
      refine Wp.goto (pc' := 194) d2_190 (by decide) ?_
      refine Wp.zreturn rfl d2_194 ?_
      subst hQ
      refine ⟨?_, rfl⟩
      revert hc186
      cases own_ns c.toInt <;> simp [own_b]
  have K60 : (c.toInt < 65 ∨ 90 < c.toInt) ∧ (c.toInt < 97 ∨ 122 < c.toInt) ∧ c.toInt ≠ 95 ∧ c.toInt ≠ 58 ∧ 192 ≤ c.toInt ∧ c.toInt ≤ 983039 → W2 l Z a0 n0 0 0 60 [.val (.int c), .val (.int 0), .unset] [] H Q := by
    intro hJ
    refine Wp.iloadN (pc' := 61) d2_60 rfl rfl ?_
    refine Wp.sipush (215) (pc' := 64) d2_61 rfl rfl ?_
    refine Wp.icmp_eqI (pt := 179) (pf := 67) d2_64 (by decide) rfl (fun hc64 => ?_) (fun hc64 => ?_)
    · refine Wp.iconst (1) (pc' := 180) d2_179 rfl rfl ?_
      refine Wp.goto (pc' := 184) d2_180 (by decide) ?_
      simp only [own_bne, own_bez, Int32.reduceToInt] at hc64
      first | exact K184 true hJ (by unfold own_ns; symm; simp only [Bool.not_eq_true', decide_eq_false_iff_not]; omega) _ rfl | exact K184 false hJ (by unfold own_ns; symm; simp only [Bool.not_eq_false', decide_eq_true_eq]; omega) _ rfl
    · refine Wp.iloadN (pc' := 68) d2_67 rfl rfl ?_
      refine Wp.sipush (247) (pc' := 71) d2_68 rfl rfl ?_
      refine Wp.icmp_eqI (pt := 179) (pf := 74) d2_71 (by decide) rfl (fun hc71 => ?_) (fun hc71 => ?_)
      · refine Wp.iconst (1) (pc' := 180) d2_179 rfl rfl ?_
        refine Wp.goto (pc' := 184) d2_180 (by decide) ?_
        simp only [own_bne, own_bez, Int32.reduceToInt] at hc64 hc71
        first | exact K184 true hJ (by unfold own_ns; symm; simp only [Bool.not_eq_true', decide_eq_false_iff_not]; omega) _ rfl | exact K184 false hJ (by unfold own_ns; symm; simp only [Bool.not_eq_false', decide_eq_true_eq]; omega) _ rfl
      · refine Wp.iloadN (pc' := 75) d2_74 rfl rfl ?_
        refine Wp.sipush (768) (pc' := 78) d2_75 rfl rfl ?_
        refine Wp.sipush (879) (pc' := 81) d2_78 rfl rfl ?_
        refine Wp.callS_3 0 (pc' := 84) (rm := rm3) (w9 hw) (w10 hw) (w7 hw) (w11 hw) (by decide) pd0 rfl d2_81 rfl rfl (by decide) (by decide) (by decide) (by decide) rfl rfl rfl ?_
        refine (con3 hw _ _ _ _).mono ?_
        rintro _ _ ⟨rfl, rfl⟩
        refine Wp.afterS ?_
        refine Wp.if_neI (pt := 179) (pf := 87) d2_84 (by decide) rfl (fun hc84 => ?_) (fun hc84 => ?_)
        · refine Wp.iconst (1) (pc' := 180) d2_179 rfl rfl ?_
          refine Wp.goto (pc' := 184) d2_180 (by decide) ?_
          simp only [own_bne, own_bez, Int32.reduceToInt] at hc64 hc71 hc84
          first | exact K184 true hJ (by unfold own_ns; symm; simp only [Bool.not_eq_true', decide_eq_false_iff_not]; omega) _ rfl | exact K184 false hJ (by unfold own_ns; symm; simp only [Bool.not_eq_false', decide_eq_true_eq]; omega) _ rfl
        · refine Wp.iloadN (pc' := 88) d2_87 rfl rfl ?_
          refine Wp.sipush (894) (pc' := 91) d2_88 rfl rfl ?_
          refine Wp.icmp_eqI (pt := 179) (pf := 94) d2_91 (by decide) rfl (fun hc91 => ?_) (fun hc91 => ?_)
          · refine Wp.iconst (1) (pc' := 180) d2_179 rfl rfl ?_
            refine Wp.goto (pc' := 184) d2_180 (by decide) ?_
            simp only [own_bne, own_bez, Int32.reduceToInt] at hc64 hc71 hc84 hc91
            first | exact K184 true hJ (by unfold own_ns; symm; simp only [Bool.not_eq_true', decide_eq_false_iff_not]; omega) _ rfl | exact K184 false hJ (by unfold own_ns; symm; simp only [Bool.not_eq_false', decide_eq_true_eq]; omega) _ rfl
          · refine Wp.iloadN (pc' := 95) d2_94 rfl rfl ?_
            refine Wp.sipush (8192) (pc' := 98) d2_95 rfl rfl ?_
            refine Wp.sipush (8203) (pc' := 101) d2_98 rfl rfl ?_
            refine Wp.callS_3 0 (pc' := 104) (rm := rm3) (w9 hw) (w10 hw) (w7 hw) (w11 hw) (by decide) pd0 rfl d2_101 rfl rfl (by decide) (by decide) (by decide) (by decide) rfl rfl rfl ?_
            refine (con3 hw _ _ _ _).mono ?_
            rintro _ _ ⟨rfl, rfl⟩
            refine Wp.afterS ?_
            refine Wp.if_neI (pt := 179) (pf := 107) d2_104 (by decide) rfl (fun hc104 => ?_) (fun hc104 => ?_)
            · refine Wp.iconst (1) (pc' := 180) d2_179 rfl rfl ?_
              refine Wp.goto (pc' := 184) d2_180 (by decide) ?_
              simp only [own_bne, own_bez, Int32.reduceToInt] at hc64 hc71 hc84 hc91 hc104
              first | exact K184 true hJ (by unfold own_ns; symm; simp only [Bool.not_eq_true', decide_eq_false_iff_not]; omega) _ rfl | exact K184 false hJ (by unfold own_ns; symm; simp only [Bool.not_eq_false', decide_eq_true_eq]; omega) _ rfl
            · refine Wp.iloadN (pc' := 108) d2_107 rfl rfl ?_
              refine Wp.sipush (8206) (pc' := 111) d2_108 rfl rfl ?_
              refine Wp.sipush (8303) (pc' := 114) d2_111 rfl rfl ?_
              refine Wp.callS_3 0 (pc' := 117) (rm := rm3) (w9 hw) (w10 hw) (w7 hw) (w11 hw) (by decide) pd0 rfl d2_114 rfl rfl (by decide) (by decide) (by decide) (by decide) rfl rfl rfl ?_
              refine (con3 hw _ _ _ _).mono ?_
              rintro _ _ ⟨rfl, rfl⟩
              refine Wp.afterS ?_
              refine Wp.if_neI (pt := 179) (pf := 120) d2_117 (by decide) rfl (fun hc117 => ?_) (fun hc117 => ?_)
              · refine Wp.iconst (1) (pc' := 180) d2_179 rfl rfl ?_
                refine Wp.goto (pc' := 184) d2_180 (by decide) ?_
                simp only [own_bne, own_bez, Int32.reduceToInt] at hc64 hc71 hc84 hc91 hc104 hc117
                first | exact K184 true hJ (by unfold own_ns; symm; simp only [Bool.not_eq_true', decide_eq_false_iff_not]; omega) _ rfl | exact K184 false hJ (by unfold own_ns; symm; simp only [Bool.not_eq_false', decide_eq_true_eq]; omega) _ rfl
              · refine Wp.iloadN (pc' := 121) d2_120 rfl rfl ?_
                refine Wp.sipush (8592) (pc' := 124) d2_121 rfl rfl ?_
                refine Wp.sipush (11263) (pc' := 127) d2_124 rfl rfl ?_
                refine Wp.callS_3 0 (pc' := 130) (rm := rm3) (w9 hw) (w10 hw) (w7 hw) (w11 hw) (by decide) pd0 rfl d2_127 rfl rfl (by decide) (by decide) (by decide) (by decide) rfl rfl rfl ?_
                refine (con3 hw _ _ _ _).mono ?_
                rintro _ _ ⟨rfl, rfl⟩
                refine Wp.afterS ?_
                refine Wp.if_neI (pt := 179) (pf := 133) d2_130 (by decide) rfl (fun hc130 => ?_) (fun hc130 => ?_)
                · refine Wp.iconst (1) (pc' := 180) d2_179 rfl rfl ?_
                  refine Wp.goto (pc' := 184) d2_180 (by decide) ?_
                  simp only [own_bne, own_bez, Int32.reduceToInt] at hc64 hc71 hc84 hc91 hc104 hc117 hc130
                  first | exact K184 true hJ (by unfold own_ns; symm; simp only [Bool.not_eq_true', decide_eq_false_iff_not]; omega) _ rfl | exact K184 false hJ (by unfold own_ns; symm; simp only [Bool.not_eq_false', decide_eq_true_eq]; omega) _ rfl
                · refine Wp.iloadN (pc' := 134) d2_133 rfl rfl ?_
                  refine Wp.sipush (12272) (pc' := 137) d2_134 rfl rfl ?_
                  refine Wp.sipush (12288) (pc' := 140) d2_137 rfl rfl ?_
                  refine Wp.callS_3 0 (pc' := 143) (rm := rm3) (w9 hw) (w10 hw) (w7 hw) (w11 hw) (by decide) pd0 rfl d2_140 rfl rfl (by decide) (by decide) (by decide) (by decide) rfl rfl rfl ?_
                  refine (con3 hw _ _ _ _).mono ?_
                  rintro _ _ ⟨rfl, rfl⟩
                  refine Wp.afterS ?_
                  refine Wp.if_neI (pt := 179) (pf := 146) d2_143 (by decide) rfl (fun hc143 => ?_) (fun hc143 => ?_)
                  · refine Wp.iconst (1) (pc' := 180) d2_179 rfl rfl ?_
                    refine Wp.goto (pc' := 184) d2_180 (by decide) ?_
                    simp only [own_bne, own_bez, Int32.reduceToInt] at hc64 hc71 hc84 hc91 hc104 hc117 hc130 hc143
                    first | exact K184 true hJ (by unfold own_ns; symm; simp only [Bool.not_eq_true', decide_eq_false_iff_not]; omega) _ rfl | exact K184 false hJ (by unfold own_ns; symm; simp only [Bool.not_eq_false', decide_eq_true_eq]; omega) _ rfl
                  · refine Wp.iloadN (pc' := 147) d2_146 rfl rfl ?_
                    refine Wp.ldcI (pc' := 149) (w13 hw) d2_147 rfl ?_
                    refine Wp.ldcI (pc' := 151) (w14 hw) d2_149 rfl ?_
                    refine Wp.callS_3 0 (pc' := 154) (rm := rm3) (w9 hw) (w10 hw) (w7 hw) (w11 hw) (by decide) pd0 rfl d2_151 rfl rfl (by decide) (by decide) (by decide) (by decide) rfl rfl rfl ?_
                    refine (con3 hw _ _ _ _).mono ?_
                    rintro _ _ ⟨rfl, rfl⟩
                    refine Wp.afterS ?_
                    refine Wp.if_neI (pt := 179) (pf := 157) d2_154 (by decide) rfl (fun hc154 => ?_) (fun hc154 => ?_)
                    · refine Wp.iconst (1) (pc' := 180) d2_179 rfl rfl ?_
                      refine Wp.goto (pc' := 184) d2_180 (by decide) ?_
                      simp only [own_bne, own_bez, Int32.reduceToInt] at hc64 hc71 hc84 hc91 hc104 hc117 hc130 hc143 hc154
                      first | exact K184 true hJ (by unfold own_ns; symm; simp only [Bool.not_eq_true', decide_eq_false_iff_not]; omega) _ rfl | exact K184 false hJ (by unfold own_ns; symm; simp only [Bool.not_eq_false', decide_eq_true_eq]; omega) _ rfl
                    · refine Wp.iloadN (pc' := 158) d2_157 rfl rfl ?_
                      refine Wp.ldcI (pc' := 160) (w15 hw) d2_158 rfl ?_
                      refine Wp.ldcI (pc' := 162) (w16 hw) d2_160 rfl ?_
                      refine Wp.callS_3 0 (pc' := 165) (rm := rm3) (w9 hw) (w10 hw) (w7 hw) (w11 hw) (by decide) pd0 rfl d2_162 rfl rfl (by decide) (by decide) (by decide) (by decide) rfl rfl rfl ?_
                      refine (con3 hw _ _ _ _).mono ?_
                      rintro _ _ ⟨rfl, rfl⟩
                      refine Wp.afterS ?_
                      refine Wp.if_neI (pt := 179) (pf := 168) d2_165 (by decide) rfl (fun hc165 => ?_) (fun hc165 => ?_)
                      · refine Wp.iconst (1) (pc' := 180) d2_179 rfl rfl ?_
                        refine Wp.goto (pc' := 184) d2_180 (by decide) ?_
                        simp only [own_bne, own_bez, Int32.reduceToInt] at hc64 hc71 hc84 hc91 hc104 hc117 hc130 hc143 hc154 hc165
                        first | exact K184 true hJ (by unfold own_ns; symm; simp only [Bool.not_eq_true', decide_eq_false_iff_not]; omega) _ rfl | exact K184 false hJ (by unfold own_ns; symm; simp only [Bool.not_eq_false', decide_eq_true_eq]; omega) _ rfl
                      · refine Wp.iloadN (pc' := 169) d2_168 rfl rfl ?_
                        refine Wp.ldcI (pc' := 171) (w17 hw) d2_169 rfl ?_
                        refine Wp.ldcI (pc' := 173) (w18 hw) d2_171 rfl ?_
                        refine Wp.callS_3 0 (pc' := 176) (rm := rm3) (w9 hw) (w10 hw) (w7 hw) (w11 hw) (by decide) pd0 rfl d2_173 rfl rfl (by decide) (by decide) (by decide) (by decide) rfl rfl rfl ?_
                        refine (con3 hw _ _ _ _).mono ?_
                        rintro _ _ ⟨rfl, rfl⟩
                        refine Wp.afterS ?_
                        refine Wp.if_eqI (pt := 183) (pf := 179) d2_176 (by decide) rfl (fun hc176 => ?_) (fun hc176 => ?_)
                        · refine Wp.iconst (0) (pc' := 184) d2_183 rfl rfl ?_
                          simp only [own_bne, own_bez, Int32.reduceToInt] at hc64 hc71 hc84 hc91 hc104 hc117 hc130 hc143 hc154 hc165 hc176
                          first | exact K184 true hJ (by unfold own_ns; symm; simp only [Bool.not_eq_true', decide_eq_false_iff_not]; omega) _ rfl | exact K184 false hJ (by unfold own_ns; symm; simp only [Bool.not_eq_false', decide_eq_true_eq]; omega) _ rfl
                        · refine Wp.iconst (1) (pc' := 180) d2_179 rfl rfl ?_
                          refine Wp.goto (pc' := 184) d2_180 (by decide) ?_
                          simp only [own_bne, own_bez, Int32.reduceToInt] at hc64 hc71 hc84 hc91 hc104 hc117 hc130 hc143 hc154 hc165 hc176
                          first | exact K184 true hJ (by unfold own_ns; symm; simp only [Bool.not_eq_true', decide_eq_false_iff_not]; omega) _ rfl | exact K184 false hJ (by unfold own_ns; symm; simp only [Bool.not_eq_false', decide_eq_true_eq]; omega) _ rfl
  have K46 : (c.toInt < 65 ∨ 90 < c.toInt) ∧ (c.toInt < 97 ∨ 122 < c.toInt) ∧ c.toInt ≠ 95 ∧ c.toInt ≠ 58 → W2 l Z a0 n0 0 0 46 [.val (.int c), .val (.int 0), .unset] [] H Q := by
    intro hJ
    refine Wp.iloadN (pc' := 47) d2_46 rfl rfl ?_
    refine Wp.sipush (192) (pc' := 50) d2_47 rfl rfl ?_
    refine Wp.ldcI (pc' := 52) (w12 hw) d2_50 rfl ?_
    refine Wp.callS_3 0 (pc' := 55) (rm := rm3) (w9 hw) (w10 hw) (w7 hw) (w11 hw) (by decide) pd0 rfl d2_52 rfl rfl (by decide) (by decide) (by decide) (by decide) rfl rfl rfl ?_
    refine (con3 hw _ _ _ _).mono ?_
    rintro _ _ ⟨rfl, rfl⟩
    refine Wp.afterS ?_
    refine Wp.if_neI (pt := 60) (pf := 58) d2_55 (by decide) rfl (fun hc55 => ?_) (fun hc55 => ?_)
    · simp only [own_bne, own_bez, Int32.reduceToInt] at hc55
      exact K60 (by omega)
    · refine Wp.iconst (0) (pc' := 59) d2_58 rfl rfl ?_
      refine Wp.zreturn rfl d2_59 ?_
      simp only [own_bne, own_bez, Int32.reduceToInt] at hc55
      subst hQ
      exact ⟨own_b0 (decide_eq_false (by omega)), rfl⟩
  refine Wp.iloadN (pc' := 1) d2_0 rfl rfl ?_
  refine Wp.bipush (97) (pc' := 3) d2_1 rfl rfl ?_
  refine Wp.bipush (122) (pc' := 5) d2_3 rfl rfl ?_
  refine Wp.callS_3 0 (pc' := 8) (rm := rm3) (w9 hw) (w10 hw) (w7 hw) (w11 hw) (by decide) pd0 rfl d2_5 rfl rfl (by decide) (by decide) (by decide) (by decide) rfl rfl rfl ?_
  refine (con3 hw _ _ _ _).mono ?_
  rintro _ _ ⟨rfl, rfl⟩
  refine Wp.afterS ?_
  refine Wp.if_neI (pt := 34) (pf := 11) d2_8 (by decide) rfl (fun hc8 => ?_) (fun hc8 => ?_)
  · refine Wp.iconst (1) (pc' := 35) d2_34 rfl rfl ?_
    refine Wp.goto (pc' := 39) d2_35 (by decide) ?_
    refine Wp.istoreN_1 (pc' := 40) d2_39 rfl rfl ?_
    refine Wp.iloadN (pc' := 41) d2_40 rfl rfl ?_
    refine Wp.if_eqI (pt := 46) (pf := 44) d2_41 (by decide) rfl (fun hc41 => absurd hc41 (by decide)) (fun hc41 => ?_)
    refine Wp.iconst (1) (pc' := 45) d2_44 rfl rfl ?_
    refine Wp.zreturn rfl d2_45 ?_
    simp only [own_bne, own_bez, Int32.reduceToInt] at hc8
    subst hQ
    exact ⟨own_b1 (decide_eq_true (by omega)), rfl⟩
  · refine Wp.iloadN (pc' := 12) d2_11 rfl rfl ?_
    refine Wp.bipush (65) (pc' := 14) d2_12 rfl rfl ?_
    refine Wp.bipush (90) (pc' := 16) d2_14 rfl rfl ?_
    refine Wp.callS_3 0 (pc' := 19) (rm := rm3) (w9 hw) (w10 hw) (w7 hw) (w11 hw) (by decide) pd0 rfl d2_16 rfl rfl (by decide) (by decide) (by decide) (by decide) rfl rfl rfl ?_
    refine (con3 hw _ _ _ _).mono ?_
    rintro _ _ ⟨rfl, rfl⟩
    refine Wp.afterS ?_
    refine Wp.if_neI (pt := 34) (pf := 22) d2_19 (by decide) rfl (fun hc19 => ?_) (fun hc19 => ?_)
    · refine Wp.iconst (1) (pc' := 35) d2_34 rfl rfl ?_
      refine Wp.goto (pc' := 39) d2_35 (by decide) ?_
      refine Wp.istoreN_1 (pc' := 40) d2_39 rfl rfl ?_
      refine Wp.iloadN (pc' := 41) d2_40 rfl rfl ?_
      refine Wp.if_eqI (pt := 46) (pf := 44) d2_41 (by decide) rfl (fun hc41 => absurd hc41 (by decide)) (fun hc41 => ?_)
      refine Wp.iconst (1) (pc' := 45) d2_44 rfl rfl ?_
      refine Wp.zreturn rfl d2_45 ?_
      simp only [own_bne, own_bez, Int32.reduceToInt] at hc8 hc19
      subst hQ
      exact ⟨own_b1 (decide_eq_true (by omega)), rfl⟩
    · refine Wp.iloadN (pc' := 23) d2_22 rfl rfl ?_
      refine Wp.bipush (95) (pc' := 25) d2_23 rfl rfl ?_
      refine Wp.icmp_eqI (pt := 34) (pf := 28) d2_25 (by decide) rfl (fun hc25 => ?_) (fun hc25 => ?_)
      · refine Wp.iconst (1) (pc' := 35) d2_34 rfl rfl ?_
        refine Wp.goto (pc' := 39) d2_35 (by decide) ?_
        refine Wp.istoreN_1 (pc' := 40) d2_39 rfl rfl ?_
        refine Wp.iloadN (pc' := 41) d2_40 rfl rfl ?_
        refine Wp.if_eqI (pt := 46) (pf := 44) d2_41 (by decide) rfl (fun hc41 => absurd hc41 (by decide)) (fun hc41 => ?_)
        refine Wp.iconst (1) (pc' := 45) d2_44 rfl rfl ?_
        refine Wp.zreturn rfl d2_45 ?_
        simp only [own_bne, own_bez, Int32.reduceToInt] at hc8 hc19 hc25
        subst hQ
        exact ⟨own_b1 (decide_eq_true (by omega)), rfl⟩
      · refine Wp.iloadN (pc' := 29) d2_28 rfl rfl ?_
        refine Wp.bipush (58) (pc' := 31) d2_29 rfl rfl ?_
        refine Wp.icmp_neI (pt := 38) (pf := 34) d2_31 (by decide) rfl (fun hc31 => ?_) (fun hc31 => ?_)
        · refine Wp.iconst (0) (pc' := 39) d2_38 rfl rfl ?_
          refine Wp.istoreN_1 (pc' := 40) d2_39 rfl rfl ?_
          refine Wp.iloadN (pc' := 41) d2_40 rfl rfl ?_
          refine Wp.if_eqI (pt := 46) (pf := 44) d2_41 (by decide) rfl (fun hc41 => ?_) (fun hc41 => absurd hc41 (by decide))
          simp only [own_bne, own_bez, Int32.reduceToInt] at hc8 hc19 hc25 hc31
          exact K46 (by omega)
        · refine Wp.iconst (1) (pc' := 35) d2_34 rfl rfl ?_
          refine Wp.goto (pc' := 39) d2_35 (by decide) ?_
          refine Wp.istoreN_1 (pc' := 40) d2_39 rfl rfl ?_
          refine Wp.iloadN (pc' := 41) d2_40 rfl rfl ?_
          refine Wp.if_eqI (pt := 46) (pf := 44) d2_41 (by decide) rfl (fun hc41 => absurd hc41 (by decide)) (fun hc41 => ?_)
          refine Wp.iconst (1) (pc' := 45) d2_44 rfl rfl ?_
          refine Wp.zreturn rfl d2_45 ?_
          simp only [own_bne, own_bez, Int32.reduceToInt] at hc8 hc19 hc25 hc31
          subst hQ
          exact ⟨own_b1 (decide_eq_true (by omega)), rfl⟩
theorem law_con (l : Launch) (Z : State) (a0 : Array Value) (n0 : Nat) (hw : Hw Z a0) (x s : Int32) :
    C0 l Z a0 n0 #[.int x, .int s] [] (fun v _ => v = some (.int 1)) := by
  refine Wp.Con.intro pn0 (fun m => ef0 m x s) ?_
  have key : ∀ c k : Int32, W0 l Z a0 n0 0 0 45 [.val (.int x), .val (.int s), .val (.int k), .val (.int c)] [] [] (fun v _ => v = some (.int 1)) := by
    intro c k
    refine Wp.iloadN (pc' := 46) at_45 rfl rfl ?_
    refine Wp.callS_1 0 (pc' := 49) (rm := rm1) (w1 hw) (w2 hw) (w3 hw) (w4 hw) (by decide) pd1 rfl at_46 rfl rfl (by decide) (by decide) (by decide) (by decide) rfl rfl rfl ?_
    refine (con1 hw _ _).mono ?_
    rintro _ _ ⟨rfl, rfl⟩
    refine Wp.afterS ?_
    refine Wp.iloadN (pc' := 50) at_49 rfl rfl ?_
    refine Wp.callS_1 1 (pc' := 53) (rm := rm2) (w5 hw) (w6 hw) (w7 hw) (w8 hw) (by decide) pd1 rfl at_50 rfl rfl (by decide) (by decide) (by decide) (by decide) rfl rfl rfl ?_
    refine (con2 hw _ _).mono ?_
    rintro _ _ ⟨rfl, rfl⟩
    refine Wp.afterS ?_
    refine Wp.icmp_ne (pt := 60) (pf := 56) at_53 (by decide) rfl (fun hc53 => ?_) (fun hc53 => ?_)
    · exact absurd rfl hc53
    · refine Wp.iconst (1) (pc' := 57) at_56 rfl rfl ?_
      refine Wp.goto (pc' := 61) at_57 (by decide) ?_
      refine Wp.zreturn rfl at_61 ?_
      rfl
  refine Wp.iloadN (pc' := 1) at_0 rfl rfl ?_
  refine Wp.iconst (3) (pc' := 2) at_1 rfl rfl ?_
  refine Wp.iand (pc' := 3) at_2 rfl ?_
  refine Wp.istoreN_2 (pc' := 4) at_3 rfl rfl ?_
  refine Wp.iloadN (pc' := 5) at_4 rfl rfl ?_
  refine Wp.if_ne (pt := 13) (pf := 8) at_5 (by decide) rfl (fun hc5 => ?_) (fun hc5 => ?_)
  · refine Wp.iloadN (pc' := 14) at_13 rfl rfl ?_
    refine Wp.iconst (1) (pc' := 15) at_14 rfl rfl ?_
    refine Wp.icmp_ne (pt := 27) (pf := 18) at_15 (by decide) rfl (fun hc15 => ?_) (fun hc15 => ?_)
    · refine Wp.iloadN (pc' := 28) at_27 rfl rfl ?_
      refine Wp.iconst (2) (pc' := 29) at_28 rfl rfl ?_
      refine Wp.icmp_ne (pt := 40) (pf := 32) at_29 (by decide) rfl (fun hc29 => ?_) (fun hc29 => ?_)
      · refine Wp.iloadN (pc' := 41) at_40 rfl rfl ?_
        refine Wp.ldcI (pc' := 43) (w0 hw) at_41 rfl ?_
        refine Wp.iand (pc' := 44) at_43 rfl ?_
        refine Wp.istoreN_3 (pc' := 45) at_44 rfl rfl ?_
        exact key _ _
      · refine Wp.iloadN (pc' := 33) at_32 rfl rfl ?_
        refine Wp.ldcI (pc' := 35) (w18 hw) at_33 rfl ?_
        refine Wp.iand (pc' := 36) at_35 rfl ?_
        refine Wp.istoreN_3 (pc' := 37) at_36 rfl rfl ?_
        refine Wp.goto (pc' := 45) at_37 (by decide) ?_
        exact key _ _
    · refine Wp.iloadN (pc' := 19) at_18 rfl rfl ?_
      refine Wp.sipush (255) (pc' := 22) at_19 rfl rfl ?_
      refine Wp.iand (pc' := 23) at_22 rfl ?_
      refine Wp.istoreN_3 (pc' := 24) at_23 rfl rfl ?_
      refine Wp.goto (pc' := 45) at_24 (by decide) ?_
      exact key _ _
  · refine Wp.iloadN (pc' := 9) at_8 rfl rfl ?_
    refine Wp.istoreN_3 (pc' := 10) at_9 rfl rfl ?_
    refine Wp.goto (pc' := 45) at_10 (by decide) ?_
    exact key _ _
set_option maxRecDepth 65536 in
theorem comes_1 {Post : Tables → Env → Array Value → State → Outcome → State → Prop} (hpost : ∀ tb e args s v u, (limb_1_1.after args s (.returned v) u = true ∧ limb_1_2.after args s (.returned v) u = true ∧ True) → FrameEnd s (.returned v) u (Jvm.fieldLocs frame_1_writes args s ++ Jvm.arrayLocs frame_1_arrays args s ++ Jvm.staticLocs frame_1_statics s) room_1.cells room_1.slots → Post tb e args s (.returned v) u) :
    ArmFor flags0 classFile x code maxLocals ret World_1 tables_1 room_1 Calls_1 rest_1 Pre_1 Post := by
  intro l hfl _ _ p e ha hc hk s m args below hf hA hF happ hP
  obtain ⟨hcalls, hrest, hpre⟩ := hP
  obtain ⟨-, -, -, hnamed, -, -, -, hat⟩ := (Spec.applies_iff hf).mp happ
  obtain ⟨hg, hn⟩ := and_e (Cond.before_iff.mp (show (Jvm.Cond.and given_1 narrow_1).before args s = true from hpre))
  obtain ⟨hcnt, g0⟩ := and_e hg
  obtain ⟨y0, y1, rfl⟩ : ∃ y0 y1 : Value, args = #[y0, y1] := by
    have hs : args.size = 2 := by simpa [Cond.value, given_1] using hcnt
    obtain ⟨L⟩ := args
    match L, hs with
    | [y0, y1], _ => exact ⟨y0, y1, rfl⟩
  have hw := fun d (hd : d ∈ tables_1) => atoms_spec (ws := Jvm.Cond.code x code maxLocals ret :: tables_1) hat d (List.mem_cons_of_mem _ hd)
  obtain ⟨g0a, g1⟩ := and_e g0
  obtain ⟨i0, e0⟩ := is_v g0a
  obtain rfl : y0 = .int i0 := Option.some.inj e0
  obtain ⟨i1, e1⟩ := is_v g1
  obtain rfl : y1 = .int i1 := Option.some.inj e1
  obtain ⟨n, o, h1, h2, h3, v, L, rfl, ⟨N, H', hR', rfl⟩, hq⟩ := law_con l s _ s.heap.size hw i0 i1 tables_1 s.heap ⟨Nat.le_refl _, List.nodup_nil, fun _ q => nomatch q⟩ p e ha hc hk s m _ below hf ((Spec.applies_iff_loose hf).mp happ).1 ⟨rfl, State.Warmed39.refl s, rfl⟩ trivial
  refine ⟨n, _, h1, h2, h3, hpost _ _ _ _ _ _ ⟨Cond.after_iff.mpr rfl, Cond.after_iff.mpr (eq_i res_at (Term.int_eval (1)) rfl), trivial⟩ ⟨hq.1, hq.2.1, (hq.2.2.sift fun y hy => Or.inr (N y hy)).mono (by decide) (by decide)⟩⟩
theorem main_1_1 : Claimed_1_1 := comes_1 fun _ _ _ _ _ _ h hF => ⟨h.1, hF⟩
theorem main_1_2 : Claimed_1_2 := comes_1 fun _ _ _ _ _ _ h hF => ⟨h.2.1, hF⟩
end Jvm.Pilot.@@N@@
namespace Jvm.Pilot.@@N@@
open Jvm Jvm.ClassFile Sem Op Lib Jvm.Free Jvm.Stand Jvm.Pilot.@@N@@.Jvm.D
/-! MADE BY PROGRAM (witnessworld.py) out of the Statement's table words and the real class files: 9 classes; the members and pool entries that the words name. The judged class is class 1, her method 3. -/
namespace start1
open Jvm.ClassFile
def u (s : String) : CpInfo := .utf8 (stringToUtf16 s)
/-- a pool by its gaps: so many unusable entries, then the entry; so many at the end -/
def gap : Nat → List CpInfo → List CpInfo
  | 0, r => r
  | n + 1, r => .unusable :: gap n r
def poolList (es : List (Nat × CpInfo)) (last : Nat) : List CpInfo := es.foldr (fun e r => gap e.1 (e.2 :: r)) (gap last [])
def pool (es : List (Nat × CpInfo)) (last : Nat) : Array CpInfo := ⟨poolList es last⟩
def fileOf (pool : Array CpInfo) (this : Nat) (attrs : Array Attribute := #[]) (ms : Array MethodInfo := #[]) (fl : Nat := 33) (sup : Nat := 0) (ifs : Array Nat := #[]) (fds : Array FieldInfo := #[]) : ClassFile where
  minorVersion := 0
  majorVersion := 65
  constantPool := pool
  accessFlags := fl
  thisClass := this
  superClass := sup
  interfaces := ifs
  fields := fds
  methods := ms
  attributes := attrs
def plain (name : String) (sup : Option ClassId) : Class where
  name := name
  kind := .ordinary
  loader := none
  accessFlags := 33
  super := sup
  interfaces := #[]
  cf := none
  fields := #[]
  methods := #[]
  instanceTypes := #[]
  staticTypes := #[]
  resolved := #[]
  callSites := []
  init := .initialized
  statics := none
  mirror := none

def pool0 : Array CpInfo := pool [(5, u "<init>"), (0, u "()V"), (1, .class_ 10), (1, u "java/lang/Object")] 113

def k0m0 : Method := { name := "<init>", desc := "()V", sig := { parameters := [], returnType := none }, accessFlags := 1, code := none }
/-- java/lang/Object -/
def k0 : Class := { plain "java/lang/Object" none with
  accessFlags := 33
  interfaces := #[]
  cf := some (fileOf pool0 8 #[] #[{ accessFlags := 1, nameIndex := 5, descriptorIndex := 6, attributes := #[] }] 33 0 #[] #[])
  fields := #[]
  methods := #[k0m0]
  instanceTypes := #[]
  staticTypes := #[]
  resolved := Array.replicate 124 none
  statics := none }

def pool1 : Array CpInfo := pool [(2, .class_ 4), (1, u "java/lang/Object"), (0, u "<init>"), (0, u "()V"), (0, .methodref 8 9), (0, .class_ 10), (0, .nameAndType 11 12), (0, u "com/example/reelcursor/reelcursor/util/XmlCharsIsNameStartCharPinLaw"), (0, u "in"), (0, u "(III)Z"), (0, .integer 983039), (0, .integer 55296), (0, .integer 63743), (0, .integer 64976), (0, .integer 65007), (0, .integer 65534), (0, .integer 65535), (0, .integer 2097151), (0, .methodref 22 23), (0, .class_ 24), (0, .nameAndType 25 26), (0, u "com/example/reelcursor/reelcursor/util/XmlChars"), (0, u "isNameStartChar"), (0, u "(I)Z"), (0, .methodref 8 28), (0, .nameAndType 29 26), (0, u "reference"), (3, u "law"), (0, u "(II)Z")] 2

def k1m0 : Method := { name := "<init>", desc := "()V", sig := { parameters := [], returnType := none }, accessFlags := 2, code := none }
def k1c1 : Code := { maxStack := 2, maxLocals := 3, code := method_2_code, exceptionTable := #[], attributes := #[] }
def k1m1 : Method := { name := "in", desc := "(III)Z", sig := { parameters := [.int, .int, .int], returnType := some .boolean }, accessFlags := 10, code := some k1c1 }
def k1c2 : Code := { maxStack := 3, maxLocals := 3, code := method_3_code, exceptionTable := #[], attributes := #[] }
def k1m2 : Method := { name := "reference", desc := "(I)Z", sig := { parameters := [.int], returnType := some .boolean }, accessFlags := 10, code := some k1c2 }
def k1c3 : Code := { maxStack := 2, maxLocals := 4, code := code, exceptionTable := #[], attributes := #[] }
def k1m3 : Method := { name := "law", desc := "(II)Z", sig := { parameters := [.int, .int], returnType := some .boolean }, accessFlags := 9, code := some k1c3 }
/-- com/example/reelcursor/reelcursor/util/XmlCharsIsNameStartCharPinLaw -/
def k1 : Class := { plain "com/example/reelcursor/reelcursor/util/XmlCharsIsNameStartCharPinLaw" (some 0) with
  accessFlags := 49
  interfaces := #[]
  cf := some (fileOf pool1 8 #[] #[{ accessFlags := 2, nameIndex := 5, descriptorIndex := 6, attributes := #[] }, { accessFlags := 10, nameIndex := 11, descriptorIndex := 12, attributes := #[] }, { accessFlags := 10, nameIndex := 29, descriptorIndex := 26, attributes := #[] }, { accessFlags := 9, nameIndex := 33, descriptorIndex := 34, attributes := #[] }] 49 2 #[] #[])
  fields := #[]
  methods := #[k1m0, k1m1, k1m2, k1m3]
  instanceTypes := #[]
  staticTypes := #[]
  resolved := Array.replicate 37 none
  statics := none }

def pool2 : Array CpInfo := pool [(2, .class_ 4), (1, u "java/lang/Object"), (0, u "<init>"), (0, u "()V"), (0, .integer 55295), (1, .integer 65533), (0, .integer 65536), (1, .integer 63744), (0, .integer 64975), (0, .integer 65008), (0, .integer 983039), (15, .class_ 33), (1, u "com/example/reelcursor/reelcursor/util/XmlChars"), (0, u "isNameStartChar"), (0, u "(I)Z"), (8, u "ENCODING_NAME"), (0, u "Ljava/lang/String;")] 12

def k2m0 : Method := { name := "<init>", desc := "()V", sig := { parameters := [], returnType := none }, accessFlags := 2, code := none }
def k2c1 : Code := { maxStack := 2, maxLocals := 1, code := prog_18_method_4_code, exceptionTable := #[], attributes := #[] }
def k2m1 : Method := { name := "isNameStartChar", desc := "(I)Z", sig := { parameters := [.int], returnType := some .boolean }, accessFlags := 9, code := some k2c1 }
/-- com/example/reelcursor/reelcursor/util/XmlChars -/
def k2 : Class := { plain "com/example/reelcursor/reelcursor/util/XmlChars" (some 0) with
  accessFlags := 49
  interfaces := #[]
  cf := some (fileOf pool2 31 #[] #[{ accessFlags := 2, nameIndex := 5, descriptorIndex := 6, attributes := #[] }, { accessFlags := 9, nameIndex := 34, descriptorIndex := 35, attributes := #[] }] 49 2 #[] #[{ accessFlags := 25, nameIndex := 44, descriptorIndex := 45, attributes := #[] }])
  fields := #[{ name := "ENCODING_NAME", type := (.object "java/lang/String"), accessFlags := 25, slot := 0, constantValue := 0 }]
  methods := #[k2m0, k2m1]
  instanceTypes := #[]
  staticTypes := #[(.object "java/lang/String")]
  resolved := Array.replicate 58 none
  statics := none }

def pool3 : Array CpInfo := pool [(1, u "java/lang/Cloneable"), (0, .class_ 1), (0, u "java/lang/Object"), (0, .class_ 3)] 3

/-- java/lang/Cloneable -/
def k3 : Class := { plain "java/lang/Cloneable" (some 0) with
  accessFlags := 1537
  interfaces := #[]
  cf := some (fileOf pool3 2 #[] #[] 1537 4 #[] #[])
  fields := #[]
  methods := #[]
  instanceTypes := #[]
  staticTypes := #[]
  resolved := Array.replicate 8 none
  statics := none }

def pool4 : Array CpInfo := pool [(1, u "java/io/Serializable"), (0, .class_ 1), (0, u "java/lang/Object"), (0, .class_ 3)] 3

/-- java/io/Serializable -/
def k4 : Class := { plain "java/io/Serializable" (some 0) with
  accessFlags := 1537
  interfaces := #[]
  cf := some (fileOf pool4 2 #[] #[] 1537 4 #[] #[])
  fields := #[]
  methods := #[]
  instanceTypes := #[]
  staticTypes := #[]
  resolved := Array.replicate 8 none
  statics := none }

/-- the primitive byte -/
def k5 : Class := { plain "byte" none with kind := .primitive 'B', accessFlags := 0x411 }
/-- [B -/
def k6 : Class := { plain "[B" (some 0) with kind := .array 5 .byte, interfaces := #[3, 4], accessFlags := 1041 }

/-- the primitive int -/
def k7 : Class := { plain "int" none with kind := .primitive 'I', accessFlags := 0x411 }
/-- [I -/
def k8 : Class := { plain "[I" (some 0) with kind := .array 7 .int, interfaces := #[3, 4], accessFlags := 1041 }

def heap : Heap := #[]
def classes : Array Class := #[k0, k1, k2, k3, k4, k5, k6, k7, k8]
def interned : List (Array UInt16 × Addr) := []
def slotsUsed : Nat := 0
def theMethod : MethodId := ⟨1, 3⟩
def args0 : Array Value := #[.int 5, .int 5]
def aboutOver (below : List Frame) : State where
  vm := { classes := classes, interned := interned.toArray }
  heap := heap
  slotsUsed := slotsUsed
  threads := #[{ frames := .invoking theMethod args0 :: below }]
def below0 : List Frame := [.native { method := ⟨0, 0⟩, args := #[] }]
def about1 : State := aboutOver below0
def p0 : Program := .bare "" "" ""
def e0 : Env := launch0.env 0 0 0
theorem w_frames : about1.frames = Frame.invoking theMethod args0 :: below0 := rfl
set_option maxRecDepth 65536 in
theorem w_args : argsFit about1.vm theMethod args0 = true := by decide +kernel
set_option maxRecDepth 65536 in
theorem w_heap : heapFits about1 = true := by decide +kernel
set_option maxRecDepth 65536 in
theorem w_runnable : about1.curStatus? = some .runnable := by decide +kernel
set_option maxRecDepth 65536 in
theorem w_alone : about1.alone = true := by decide +kernel
set_option maxRecDepth 65536 in
theorem w_named : about1.methodNamed? x = some theMethod := by decide +kernel
set_option maxRecDepth 65536 in
theorem w_hears : about1.hears theMethod below0 = true := by decide +kernel
set_option maxRecDepth 65536 in
theorem w_ripe : about1.ripe theMethod args0 below0 = true := by decide +kernel
theorem w_running : about1.status = .running := rfl
set_option maxRecDepth 65536 in
theorem w_room : about1.hasRoom e0.platform room_1 = true :=
  launch0.hasRoom_least _ room_1 (by decide +kernel) (by decide +kernel) (by decide +kernel) (by decide +kernel) (by decide +kernel) (by decide +kernel)
theorem allAtoms_all (ts : List Jvm.Cond) (a : Array Jvm.Value) (st : Jvm.State) : (allAtoms ts).before a st = ts.all (fun c => c.before a st) := by
  induction ts with
  | nil => rfl
  | cons c t ih =>
    show (Jvm.Cond.and c (allAtoms t)).before a st = _
    rw [Jvm.Cond.before_and, ih, List.all_cons]
def words1 : List Jvm.Cond := Jvm.Cond.code x code maxLocals ret :: tables_1
/-- a 'code' word, met by the world's own term for the bytes: nothing is compared byte by byte -/
theorem code_word {y : MethodName} {bytes : ByteArray} {mx : Nat} {rt : Option FieldType} {a : Array Value} {s : State} {m : MethodId} {meth : Method} {c : Code} (h1 : s.methodNamed? y = some m) (h2 : s.vm.method? m = some meth) (h3 : meth.code = some c) (h4 : c.code = bytes)
    (h5 : (c.maxLocals == mx && c.exceptionTable.isEmpty && decide (c.maxStack ≤ mostOperands) && decide (meth.sig.returnType = rt) && !meth.locks && decide (parseMethodDescriptor y.desc = some meth.sig)) = true) : (Jvm.Cond.code y bytes mx rt).before a s = true := by
  simp only [Bool.and_eq_true, beq_iff_eq, Bool.not_eq_true', decide_eq_true_eq] at h5
  obtain ⟨⟨⟨⟨⟨g1, g2⟩, g3⟩, g4⟩, g5⟩, g6⟩ := h5
  simp [Cond.before, Cond.holds, Cond.value, h1, h2, h3, h4, g1, g2, g3, g4, g5, g6]
def isCode : Jvm.Cond → Bool
  | .code _ _ _ _ => true
  | _ => false
theorem all_split {L : List Jvm.Cond} {P : Jvm.Cond → Bool} (h1 : L.all (fun c => isCode c || P c) = true) (h2 : ∀ c ∈ L.filter isCode, P c = true) : L.all P = true := by
  refine List.all_eq_true.mpr fun c hc => ?_
  have h := List.all_eq_true.mp h1 c hc
  rcases Bool.eq_false_or_eq_true (isCode c) with hi | hi
  · exact h2 c (List.mem_filter.mpr ⟨hc, hi⟩)
  · simpa [hi] using h
set_option maxRecDepth 65536 in
theorem w_c0 : (Jvm.Cond.code x code maxLocals ret).before args0 about1 = true := code_word (m := ⟨1, 3⟩) (meth := k1m3) (c := k1c3) (by decide +kernel) rfl rfl rfl (by decide +kernel)
set_option maxRecDepth 65536 in
theorem w_c1 : (Jvm.Cond.code ({ cls := "com/example/reelcursor/reelcursor/util/XmlChars", name := "isNameStartChar", desc := "(I)Z" } : Jvm.MethodName) prog_18_method_4_code (1 : Nat) (Option.some Jvm.ClassFile.FieldType.boolean)).before args0 about1 = true := code_word (m := ⟨2, 1⟩) (meth := k2m1) (c := k2c1) (by decide +kernel) rfl rfl rfl (by decide +kernel)
set_option maxRecDepth 65536 in
theorem w_c2 : (Jvm.Cond.code ({ cls := "com/example/reelcursor/reelcursor/util/XmlCharsIsNameStartCharPinLaw", name := "reference", desc := "(I)Z" } : Jvm.MethodName) method_3_code (3 : Nat) (Option.some Jvm.ClassFile.FieldType.boolean)).before args0 about1 = true := code_word (m := ⟨1, 2⟩) (meth := k1m2) (c := k1c2) (by decide +kernel) rfl rfl rfl (by decide +kernel)
set_option maxRecDepth 65536 in
theorem w_c3 : (Jvm.Cond.code ({ cls := "com/example/reelcursor/reelcursor/util/XmlCharsIsNameStartCharPinLaw", name := "in", desc := "(III)Z" } : Jvm.MethodName) method_2_code (3 : Nat) (Option.some Jvm.ClassFile.FieldType.boolean)).before args0 about1 = true := code_word (m := ⟨1, 1⟩) (meth := k1m1) (c := k1c1) (by decide +kernel) rfl rfl rfl (by decide +kernel)
def codes1 : List Jvm.Cond := [Jvm.Cond.code x code maxLocals ret, Jvm.Cond.code ({ cls := "com/example/reelcursor/reelcursor/util/XmlChars", name := "isNameStartChar", desc := "(I)Z" } : Jvm.MethodName) prog_18_method_4_code (1 : Nat) (Option.some Jvm.ClassFile.FieldType.boolean), Jvm.Cond.code ({ cls := "com/example/reelcursor/reelcursor/util/XmlCharsIsNameStartCharPinLaw", name := "reference", desc := "(I)Z" } : Jvm.MethodName) method_3_code (3 : Nat) (Option.some Jvm.ClassFile.FieldType.boolean), Jvm.Cond.code ({ cls := "com/example/reelcursor/reelcursor/util/XmlCharsIsNameStartCharPinLaw", name := "in", desc := "(III)Z" } : Jvm.MethodName) method_2_code (3 : Nat) (Option.some Jvm.ClassFile.FieldType.boolean)]
set_option maxRecDepth 65536 in
theorem codes_eq : words1.filter isCode = codes1 := rfl
theorem w_codes : ∀ c ∈ words1.filter isCode, c.before args0 about1 = true := by
  rw [codes_eq]
  intro c hc
  simp only [codes1, List.mem_cons, List.not_mem_nil, or_false] at hc
  rcases hc with rfl | rfl | rfl | rfl
  · exact w_c0
  · exact w_c1
  · exact w_c2
  · exact w_c3
set_option maxRecDepth 65536 in
theorem w_t1 : (words1.take 24).all (fun c => isCode c || c.before args0 about1) = true := by decide +kernel
set_option maxRecDepth 65536 in
theorem w_t2 : (words1.drop 24).all (fun c => isCode c || c.before args0 about1) = true := by decide +kernel
theorem w_tables : (allAtoms (Jvm.Cond.code x code maxLocals ret :: tables_1)).before args0 about1 = true := by
  rw [allAtoms_all]
  show words1.all (fun c => c.before args0 about1) = true
  refine all_split ?_ w_codes
  rw [← List.take_append_drop 24 words1, List.all_append, w_t1, w_t2]
  rfl
set_option maxRecDepth 65536 in
theorem w_case : (Jvm.Cond.and given_1 narrow_1).before args0 about1 = true := by decide +kernel
theorem w_applies : (headSpec (Jvm.Cond.code x code maxLocals ret :: tables_1) room_1).applies x e0.platform about1 = true :=
  (Spec.applies_iff w_frames).mpr ⟨w_running, w_runnable, w_alone, w_named, w_hears, w_ripe, w_room, w_tables⟩
theorem atStart : AtStart classFile x code maxLocals ret World_1 tables_1 room_1 Calls_1 rest_1 Pre_1 launch0 p0 e0 about1 theMethod args0 below0 :=
  ⟨lists_1, trivial, launch0.admits_env _ _ _, launch0.least_env, fairChoices_fair.cas, fairChoices_fair.clock, w_frames, w_args, w_heap, w_applies, trivial, trivial, w_case⟩
end start1
theorem witness_1 : WitnessClaimed_1 := ⟨start1.p0, start1.e0, start1.about1, start1.theMethod, start1.args0, start1.below0, start1.atStart⟩
end Jvm.Pilot.@@N@@
