import JvmDerived
import JvmDerived.Pilot.@@N@@Statement
import JvmDerived.Pilot.@@N@@Code
set_option linter.unusedVariables false
set_option linter.unusedSimpArgs false
namespace Jvm.RoadKit
open Sem ClassFile Op Lib Jvm.Stand Jvm.Free Jvm.LawKit
section New
variable {p : Program} {l : Launch} {e : Env} {R : Room} {s : State} {m : MethodId} {args : Array Value} {below : List Frame} {meth : Method} {c : Code} {T : State} {locs : List Loc} {cells slots : Nat}
theorem retI (X : Stand p l e R s m args below meth c T locs cells slots) (hx : p.tables.exec = Jvm.exec) {pc : Nat} {Ls : Array Slot} {z : Int32} {rest : List Value} (hret : meth.sig.returnType = some .int) (hd : decode c.code pc = .ok (.ireturn, 1)) {fs : List Frame}
    (hl : ∀ (f : JFrame) (acts : List Action), f.method = m → f.locked = none → f.entered = [] → (doReturn e (T.setTop f) acts (some (.int z))).1 = T.setFrames fs) : Steps p.tables e below (T.setTop (mkF m pc Ls (.int z :: rest))) (T.setFrames fs) := by
  have hm' : T.vm.method? m = some meth := X.method'
  have hn : narrow .int (.int z) = .int z := rfl
  show Steps p.tables e below (T.setTop { method := m, pc := pc, locals := Ls, stack := _ :: rest, locked := none }) _
  jvm_step X.here [X.here.top, hx, hd, hm', hret, hn]
  first | (intro acts; rw [hl _ acts rfl rfl rfl]) | rw [hl _ _ rfl rfl rfl]
  exact Steps.refl _
end New
end Jvm.RoadKit
namespace Jvm.Wp
open Sem ClassFile Op Lib Jvm.Free Jvm.Stand Jvm.LawKit Jvm.RoadKit

/-- a cell of the walk's own small heap: an array (its kind, its values) or an object (its class, its fields: name, descriptor, value) -/
abbrev MC : Type := Sum (FieldType × List Value) (String × List (String × String × Value))
abbrev MH : Type := List (Addr × MC)
def COk (Z : State) (a0 : Array Value) (h : Heap) (a : Addr) : MC → Prop
  | .inl (ty, vs) => ∃ c : Cell, Arr Z h a c ty ∧ c.slots = vs.toArray ∧ vs.length < 2 ^ 31
  | .inr (C, fs) => Exa Z h a C ∧ (fs.map (·.1)).Nodup ∧ ∀ x ∈ fs, Fld Z h a C x.1 x.2.1 x.2.2 ∧ Laid Z a0 C C x.1 x.2.1 ∧ ∃ t, parseFieldDescriptor x.2.1 = some t
def Rel (Z : State) (a0 : Array Value) (n0 : Nat) (H : MH) (h : Heap) : Prop := n0 ≤ h.size ∧ (H.map (·.1)).Nodup ∧ ∀ x ∈ H, n0 ≤ x.1 ∧ COk Z a0 h x.1 x.2

theorem COk.lt {Z : State} {a0 : Array Value} {h : Heap} {a : Addr} {c : MC} (k : COk Z a0 h a c) : a < h.size := by
  cases c with
  | inl q => obtain ⟨ty, vs⟩ := q; obtain ⟨c, A, -⟩ := k; exact A.lt
  | inr q => obtain ⟨C, fs⟩ := q; exact k.1.lt
/-- from pc on, with these locals, this stack, this small heap: the method returns, and Q holds of what it returns and of the small heap at the end -/
def WP (l : Launch) (Z : State) (a0 : Array Value) (n0 : Nat) (R : Room) (y : MethodName) (code : ByteArray) (mx : Nat) (ret : Option FieldType) (cells slots pc : Nat) (Ls : List Slot) (st : List Value) (H : MH) (Q : Option Value → MH → Prop) : Prop :=
  ∀ (p : Program) (e : Env) (s : State) (m : MethodId) (args : Array Value) (below : List Frame) (meth : Method) (c : Code) (T : State) (locs : List Loc),
    Stand p l e R s m args below meth c T locs cells slots → p.tables.exec = Jvm.exec → Z.Warmed39 s.vm → c.code = code → c.maxLocals = mx → s.vm.findClass y.cls = some m.cls → meth.name = y.name → meth.sig.returnType = ret → meth.locks = false →
    Fr n0 locs → Rel Z a0 n0 H T.heap → cells ≤ R.cells → slots ≤ R.slots →
    ∃ v H' L s₂, Steps p.tables e below (T.setTop (mkF m pc ⟨Ls⟩ st)) s₂ ∧ s₂.status = .running ∧ Ended s₂ below (.returned v) ∧ Fr n0 L ∧ Rel Z a0 n0 H' s₂.heap ∧ Q v H' ∧ s.WarmedH s₂.vm ∧ s.sameButNew ({ s₂ with vm := s.vm } : State) L R.cells R.slots
/-- a method's contract: called with these arguments over this small heap it returns, and Q holds -/
def Con (l : Launch) (Z : State) (a0 : Array Value) (n0 : Nat) (y : MethodName) (code : ByteArray) (mx : Nat) (ret : Option FieldType) (rm : Room) (as : Array Value) (H : MH) (Q : Option Value → MH → Prop) : Prop :=
  ∀ (ws : List Cond) (h0 : Heap), Rel Z a0 n0 H h0 → MetFree l y (head1 (Cond.code y code mx ret :: ws) rm) (fun a U => a = as ∧ Z.Warmed39 U.vm ∧ U.heap = h0) (fun _ _ _ _ _ => True)
    (fun _ U o U' => ∃ v L, o = .returned v ∧ (Fr n0 L ∧ ∃ H', Rel Z a0 n0 H' U'.heap ∧ Q v H') ∧ FrameEnd U o U' L rm.cells rm.slots)

variable {l : Launch} {Z : State} {a0 : Array Value} {n0 : Nat} {R : Room} {y : MethodName} {code : ByteArray} {mx : Nat} {ret : Option FieldType} {cells slots pc : Nat} {Ls : List Slot} {st : List Value} {H : MH} {Q : Option Value → MH → Prop}

theorem Con.intro {rm : Room} {as : Array Value} (hpn : plainName y.cls = true) (hE : ∀ m, entryFrame m as mx = mkF m 0 ⟨Ls⟩ []) (h : WP l Z a0 n0 rm y code mx ret 0 0 0 Ls [] H Q) : Con l Z a0 n0 y code mx ret rm as H Q := by
  intro ws h0 hR
  refine MetFree.of_bodySF (plainFor_of_name hpn) hisR ?_
  intro p e s m args below meth c s₁ Bd hml0 hP hK
  obtain ⟨rfl, hZ, hh⟩ := hP
  have e0 : s₁.heap = h0 := by rw [← hh, Bd.state]; rfl
  obtain ⟨v, H', L, s2, k1, k2, k3, k4, k5, k6, k7, k8⟩ := h p e s m _ below meth c s₁ [] (Stand.of_body Bd) Bd.exec hZ Bd.bytes hml0 (findClass_of_methodNamed Bd.named) (name_of_methodNamed Bd.named Bd.method).1 Bd.returns Bd.notSynchronized (Fr.nil n0) (by rw [e0]; exact hR) (Nat.zero_le _) (Nat.zero_le _)
  exact ⟨s2, _, castTop (hE m) k1, k2, k3, v, L, rfl, ⟨k4, H', k5, k6⟩, ⟨_, rfl⟩, k7, k8⟩
theorem Con.mono {rm : Room} {as : Array Value} {Q' : Option Value → MH → Prop} (h : Con l Z a0 n0 y code mx ret rm as H Q) (k : ∀ v H', Q v H' → Q' v H') : Con l Z a0 n0 y code mx ret rm as H Q' := by
  intro ws h0 hR p e ha hc hk s m args below hf happ hP hK
  obtain ⟨n, o, q1, q2, q3, v, L, q4, ⟨q5, H', q6, q7⟩, q8⟩ := h ws h0 hR p e ha hc hk s m args below hf happ hP hK
  exact ⟨n, o, q1, q2, q3, v, L, q4, ⟨q5, H', q6, k _ _ q7⟩, q8⟩
theorem WP.mono {Q' : Option Value → MH → Prop} (h : WP l Z a0 n0 R y code mx ret cells slots pc Ls st H Q) (k : ∀ v H', Q v H' → Q' v H') : WP l Z a0 n0 R y code mx ret cells slots pc Ls st H Q' := by
  intro p e s m args below meth c T locs X hx hZ hc hm ho hn hr hl hF hR g1 g2
  obtain ⟨v, H', L, s2, k1, k2, k3, k4, k5, k6, k7⟩ := h p e s m args below meth c T locs X hx hZ hc hm ho hn hr hl hF hR g1 g2
  exact ⟨v, H', L, s2, k1, k2, k3, k4, k5, k _ _ k6, k7⟩

/-- a step that moves the frame alone -/
theorem pure {pc' : Nat} {Ls' : List Slot} {st' : List Value}
    (h : ∀ (p : Program) (e : Env) (m : MethodId) (below : List Frame) (c : Code) (T target : State), At T m c below → p.tables.exec = Jvm.exec → c.code = code → Steps p.tables e below (T.setTop (mkF m pc' ⟨Ls'⟩ st')) target → Steps p.tables e below (T.setTop (mkF m pc ⟨Ls⟩ st)) target)
    (k : WP l Z a0 n0 R y code mx ret cells slots pc' Ls' st' H Q) : WP l Z a0 n0 R y code mx ret cells slots pc Ls st H Q := by
  intro p e s m args below meth c T locs X hx hZ hc hm ho hn hr hl hF hR g1 g2
  obtain ⟨v, H', L, s2, k1, k2⟩ := k p e s m args below meth c T locs X hx hZ hc hm ho hn hr hl hF hR g1 g2
  exact ⟨v, H', L, s2, h p e m below c T s2 X.here hx hc k1, k2⟩
/-- a step that hands back a new state over the same heap -/
theorem stepT {pc' : Nat} {Ls' : List Slot} {st' : List Value}
    (h : ∀ (p : Program) (e : Env) (s : State) (m : MethodId) (args : Array Value) (below : List Frame) (meth : Method) (c : Code) (T : State) (locs : List Loc), Stand p l e R s m args below meth c T locs cells slots → p.tables.exec = Jvm.exec → Z.Warmed39 s.vm → c.code = code → c.maxLocals = mx → s.vm.findClass y.cls = some m.cls → Rel Z a0 n0 H T.heap →
      ∃ T', Stand p l e R s m args below meth c T' locs cells slots ∧ T'.heap = T.heap ∧ ∀ target, Steps p.tables e below (T'.setTop (mkF m pc' ⟨Ls'⟩ st')) target → Steps p.tables e below (T.setTop (mkF m pc ⟨Ls⟩ st)) target)
    (k : WP l Z a0 n0 R y code mx ret cells slots pc' Ls' st' H Q) : WP l Z a0 n0 R y code mx ret cells slots pc Ls st H Q := by
  intro p e s m args below meth c T locs X hx hZ hc hm ho hn hr hl hF hR g1 g2
  obtain ⟨T', X', e', st⟩ := h p e s m args below meth c T locs X hx hZ hc hm ho hR
  obtain ⟨v, H', L, s2, k1, k2⟩ := k p e s m args below meth c T' locs X' hx hZ hc hm ho hn hr hl hF (by rw [e']; exact hR) g1 g2
  exact ⟨v, H', L, s2, st _ k1, k2⟩
theorem iloadN {k : Fin 4} {v : Int32} {pc' : Nat} (hd : decode code pc = .ok (.iload_n k, 1)) (hl : Ls[k.val]? = some (.val (.int v))) (hp : pc + 1 = pc') (w : WP l Z a0 n0 R y code mx ret cells slots pc' Ls (.int v :: st) H Q) : WP l Z a0 n0 R y code mx ret cells slots pc Ls st H Q := by
  subst hp
  exact pure (fun p e m below c T t h hx hc hs => XS.iloadN h hx rfl (hb hc hd) (by simpa using hl) hs) w
theorem iload {k : Nat} {v : Int32} {pc' : Nat} (hd : decode code pc = .ok (.iload k, 2)) (hl : Ls[k]? = some (.val (.int v))) (hp : pc + 2 = pc') (w : WP l Z a0 n0 R y code mx ret cells slots pc' Ls (.int v :: st) H Q) : WP l Z a0 n0 R y code mx ret cells slots pc Ls st H Q := by
  subst hp
  exact pure (fun p e m below c T t h hx hc hs => XS.iload h hx rfl (hb hc hd) (by simpa using hl) hs) w
theorem iconst {i : Int} (n : Int32) {pc' : Nat} (hd : decode code pc = .ok (.iconst i, 1)) (hn : Int32.ofInt i = n) (hp : pc + 1 = pc') (w : WP l Z a0 n0 R y code mx ret cells slots pc' Ls (.int n :: st) H Q) : WP l Z a0 n0 R y code mx ret cells slots pc Ls st H Q := by
  subst hp hn
  exact pure (fun p e m below c T t h hx hc hs => XS.iconst h hx rfl (hb hc hd) hs) w
theorem bipush {i : Int} (n : Int32) {pc' : Nat} (hd : decode code pc = .ok (.bipush i, 2)) (hn : (Int8.ofInt i).toInt32 = n) (hp : pc + 2 = pc') (w : WP l Z a0 n0 R y code mx ret cells slots pc' Ls (.int n :: st) H Q) : WP l Z a0 n0 R y code mx ret cells slots pc Ls st H Q := by
  subst hp hn
  exact pure (fun p e m below c T t h hx hc hs => XS.bipush h hx rfl (hb hc hd) hs) w
theorem sipush {i : Int} (n : Int32) {pc' : Nat} (hd : decode code pc = .ok (.sipush i, 3)) (hn : (Int16.ofInt i).toInt32 = n) (hp : pc + 3 = pc') (w : WP l Z a0 n0 R y code mx ret cells slots pc' Ls (.int n :: st) H Q) : WP l Z a0 n0 R y code mx ret cells slots pc Ls st H Q := by
  subst hp hn
  exact pure (fun p e m below c T t h hx hc hs => XS.sipush h hx rfl (hb hc hd) hs) w
theorem iadd {x z : Int32} {pc' : Nat} (hd : decode code pc = .ok (.iadd, 1)) (hp : pc + 1 = pc') (w : WP l Z a0 n0 R y code mx ret cells slots pc' Ls (.int (x + z) :: st) H Q) : WP l Z a0 n0 R y code mx ret cells slots pc Ls (.int z :: .int x :: st) H Q := by
  subst hp
  exact pure (fun p e m below c T t h hx hc hs => XS.iadd h hx rfl (hb hc hd) rfl hs) w
theorem isub {x z : Int32} {pc' : Nat} (hd : decode code pc = .ok (.isub, 1)) (hp : pc + 1 = pc') (w : WP l Z a0 n0 R y code mx ret cells slots pc' Ls (.int (x - z) :: st) H Q) : WP l Z a0 n0 R y code mx ret cells slots pc Ls (.int z :: .int x :: st) H Q := by
  subst hp
  exact pure (fun p e m below c T t h hx hc hs => XS.isub h hx rfl (hb hc hd) rfl hs) w
theorem iand {x z : Int32} {pc' : Nat} (hd : decode code pc = .ok (.iand, 1)) (hp : pc + 1 = pc') (w : WP l Z a0 n0 R y code mx ret cells slots pc' Ls (.int (x &&& z) :: st) H Q) : WP l Z a0 n0 R y code mx ret cells slots pc Ls (.int z :: .int x :: st) H Q := by
  subst hp
  exact pure (fun p e m below c T t h hx hc hs => XS.iand h hx rfl (hb hc hd) rfl hs) w
theorem ior {x z : Int32} {pc' : Nat} (hd : decode code pc = .ok (.ior, 1)) (hp : pc + 1 = pc') (w : WP l Z a0 n0 R y code mx ret cells slots pc' Ls (.int (x ||| z) :: st) H Q) : WP l Z a0 n0 R y code mx ret cells slots pc Ls (.int z :: .int x :: st) H Q := by
  subst hp
  exact pure (fun p e m below c T t h hx hc hs => XS.ior h hx rfl (hb hc hd) rfl hs) w
theorem ixor {x z : Int32} {pc' : Nat} (hd : decode code pc = .ok (.ixor, 1)) (hp : pc + 1 = pc') (w : WP l Z a0 n0 R y code mx ret cells slots pc' Ls (.int (x ^^^ z) :: st) H Q) : WP l Z a0 n0 R y code mx ret cells slots pc Ls (.int z :: .int x :: st) H Q := by
  subst hp
  exact pure (fun p e m below c T t h hx hc hs => XS.ixor h hx rfl (hb hc hd) rfl hs) w
theorem ishl {x z : Int32} {pc' : Nat} (hd : decode code pc = .ok (.ishl, 1)) (hp : pc + 1 = pc') (w : WP l Z a0 n0 R y code mx ret cells slots pc' Ls (.int (x <<< (z &&& 31)) :: st) H Q) : WP l Z a0 n0 R y code mx ret cells slots pc Ls (.int z :: .int x :: st) H Q := by
  subst hp
  exact pure (fun p e m below c T t h hx hc hs => XS.ishl h hx rfl (hb hc hd) rfl hs) w
theorem iushr {x z : Int32} {pc' : Nat} (hd : decode code pc = .ok (.iushr, 1)) (hp : pc + 1 = pc') (w : WP l Z a0 n0 R y code mx ret cells slots pc' Ls (.int ((x.toUInt32 >>> (z &&& 31).toUInt32).toInt32) :: st) H Q) : WP l Z a0 n0 R y code mx ret cells slots pc Ls (.int z :: .int x :: st) H Q := by
  subst hp
  exact pure (fun p e m below c T t h hx hc hs => XS.iushr h hx rfl (hb hc hd) rfl hs) w
theorem irem {x z : Int32} {pc' : Nat} (hd : decode code pc = .ok (.irem, 1)) (hz : z ≠ 0) (hp : pc + 1 = pc') (w : WP l Z a0 n0 R y code mx ret cells slots pc' Ls (.int (x % z) :: st) H Q) : WP l Z a0 n0 R y code mx ret cells slots pc Ls (.int z :: .int x :: st) H Q := by
  subst hp
  exact pure (fun p e m below c T t h hx hc hs => XS.irem h hx rfl (hb hc hd) rfl hz (by rw [irem_eq_mod]; exact hs)) w
theorem goto {o : Int} {pc' : Nat} (hd : decode code pc = .ok (.goto o, 3)) (hp : (pc : Int) + o = (pc' : Int)) (w : WP l Z a0 n0 R y code mx ret cells slots pc' Ls st H Q) : WP l Z a0 n0 R y code mx ret cells slots pc Ls st H Q :=
  pure (fun p e m below c T t h hx hc hs => XS.goto h hx rfl (pc0 := pc) (pc' := pc') rfl (hb hc hd) (by omega) (by omega) hs) w
theorem hI_lt {x z : Int32} : (if_icmp.holds .lt x z = true → x.toInt < z.toInt) ∧ (if_icmp.holds .lt x z = false → z.toInt ≤ x.toInt) := by
  constructor <;> intro hq <;> simp [if_icmp.holds, Int32.lt_iff_toInt_lt, Int32.le_iff_toInt_le] at hq ⊢ <;> first | omega | exact hq | simp_all
theorem icmp_lt {x z : Int32} {o : Int} {pt pf : Nat} (hd : decode code pc = .ok (.if_icmp .lt o, 3)) (hp : (pc : Int) + o = (pt : Int)) (hq : pc + 3 = pf) (wt : x.toInt < z.toInt → WP l Z a0 n0 R y code mx ret cells slots pt Ls st H Q) (wf : z.toInt ≤ x.toInt → WP l Z a0 n0 R y code mx ret cells slots pf Ls st H Q) : WP l Z a0 n0 R y code mx ret cells slots pc Ls (.int z :: .int x :: st) H Q := by
  subst hq
  cases hh : if_icmp.holds .lt x z
  · exact pure (fun p e m below c T t h hx hc hs => XS.icmpNo h hx rfl (hb hc hd) rfl hh hs) (wf (hI_lt.2 hh))
  · exact pure (fun p e m below c T t h hx hc hs => XS.icmpYes h hx rfl (pc0 := pc) (pc' := pt) rfl (hb hc hd) rfl hh (by omega) (by omega) hs) (wt (hI_lt.1 hh))
theorem hI_ge {x z : Int32} : (if_icmp.holds .ge x z = true → z.toInt ≤ x.toInt) ∧ (if_icmp.holds .ge x z = false → x.toInt < z.toInt) := by
  constructor <;> intro hq <;> simp [if_icmp.holds, Int32.lt_iff_toInt_lt, Int32.le_iff_toInt_le] at hq ⊢ <;> first | omega | exact hq | simp_all
theorem icmp_ge {x z : Int32} {o : Int} {pt pf : Nat} (hd : decode code pc = .ok (.if_icmp .ge o, 3)) (hp : (pc : Int) + o = (pt : Int)) (hq : pc + 3 = pf) (wt : z.toInt ≤ x.toInt → WP l Z a0 n0 R y code mx ret cells slots pt Ls st H Q) (wf : x.toInt < z.toInt → WP l Z a0 n0 R y code mx ret cells slots pf Ls st H Q) : WP l Z a0 n0 R y code mx ret cells slots pc Ls (.int z :: .int x :: st) H Q := by
  subst hq
  cases hh : if_icmp.holds .ge x z
  · exact pure (fun p e m below c T t h hx hc hs => XS.icmpNo h hx rfl (hb hc hd) rfl hh hs) (wf (hI_ge.2 hh))
  · exact pure (fun p e m below c T t h hx hc hs => XS.icmpYes h hx rfl (pc0 := pc) (pc' := pt) rfl (hb hc hd) rfl hh (by omega) (by omega) hs) (wt (hI_ge.1 hh))
theorem hI_le {x z : Int32} : (if_icmp.holds .le x z = true → x.toInt ≤ z.toInt) ∧ (if_icmp.holds .le x z = false → z.toInt < x.toInt) := by
  constructor <;> intro hq <;> simp [if_icmp.holds, Int32.lt_iff_toInt_lt, Int32.le_iff_toInt_le] at hq ⊢ <;> first | omega | exact hq | simp_all
theorem icmp_le {x z : Int32} {o : Int} {pt pf : Nat} (hd : decode code pc = .ok (.if_icmp .le o, 3)) (hp : (pc : Int) + o = (pt : Int)) (hq : pc + 3 = pf) (wt : x.toInt ≤ z.toInt → WP l Z a0 n0 R y code mx ret cells slots pt Ls st H Q) (wf : z.toInt < x.toInt → WP l Z a0 n0 R y code mx ret cells slots pf Ls st H Q) : WP l Z a0 n0 R y code mx ret cells slots pc Ls (.int z :: .int x :: st) H Q := by
  subst hq
  cases hh : if_icmp.holds .le x z
  · exact pure (fun p e m below c T t h hx hc hs => XS.icmpNo h hx rfl (hb hc hd) rfl hh hs) (wf (hI_le.2 hh))
  · exact pure (fun p e m below c T t h hx hc hs => XS.icmpYes h hx rfl (pc0 := pc) (pc' := pt) rfl (hb hc hd) rfl hh (by omega) (by omega) hs) (wt (hI_le.1 hh))
theorem hI_ne {x z : Int32} : (if_icmp.holds .ne x z = true → ¬ x = z) ∧ (if_icmp.holds .ne x z = false → x = z) := by
  constructor <;> intro hq <;> simp [if_icmp.holds, Int32.lt_iff_toInt_lt, Int32.le_iff_toInt_le] at hq ⊢ <;> first | omega | exact hq | simp_all
theorem icmp_ne {x z : Int32} {o : Int} {pt pf : Nat} (hd : decode code pc = .ok (.if_icmp .ne o, 3)) (hp : (pc : Int) + o = (pt : Int)) (hq : pc + 3 = pf) (wt : ¬ x = z → WP l Z a0 n0 R y code mx ret cells slots pt Ls st H Q) (wf : x = z → WP l Z a0 n0 R y code mx ret cells slots pf Ls st H Q) : WP l Z a0 n0 R y code mx ret cells slots pc Ls (.int z :: .int x :: st) H Q := by
  subst hq
  cases hh : if_icmp.holds .ne x z
  · exact pure (fun p e m below c T t h hx hc hs => XS.icmpNo h hx rfl (hb hc hd) rfl hh hs) (wf (hI_ne.2 hh))
  · exact pure (fun p e m below c T t h hx hc hs => XS.icmpYes h hx rfl (pc0 := pc) (pc' := pt) rfl (hb hc hd) rfl hh (by omega) (by omega) hs) (wt (hI_ne.1 hh))
def ok1 : Slot → Bool
  | .unset => true
  | .val v => v.category == 1
  | .second => false
theorem stl1 (pre : List Slot) {o : Slot} {t : List Slot} {v : Value} (ho : ok1 o = true) (hv : v.category = 1) : storeLocals ⟨pre ++ o :: t⟩ pre.length v = some ⟨pre ++ .val v :: t⟩ := by
  have hg : (⟨pre ++ o :: t⟩ : Array Slot)[pre.length]? = some o := by simp
  have hs : storeSelf (⟨pre ++ o :: t⟩ : Array Slot) pre.length v = some ⟨pre ++ .val v :: t⟩ := by
    simp [storeSelf, setAt, hv, Array.setIfInBounds]
  cases o with
  | unset => simp only [storeLocals, hg]; exact hs
  | second => cases ho
  | val w =>
    have hw : ¬ w.category = 2 := by simp only [ok1, beq_iff_eq] at ho; omega
    simp only [storeLocals, hg]
    show (if w.category = 2 then _ else _) = _
    rw [if_neg hw]; exact hs
theorem istoreN_1 {s0 : Slot} {o : Slot} {t : List Slot} {x : Int32} {pc' : Nat} (hd : decode code pc = .ok (.istore_n 1, 1)) (ho : ok1 o = true) (hp : pc + 1 = pc') (w : WP l Z a0 n0 R y code mx ret cells slots pc' (s0 :: .val (.int x) :: t) st H Q) : WP l Z a0 n0 R y code mx ret cells slots pc (s0 :: o :: t) (.int x :: st) H Q := by
  subst hp
  exact pure (fun p e m below c T t h hx hc' hs => XS.istoreN h hx rfl (hb hc' hd) rfl (stl1 [s0] ho rfl) hs) w
theorem istoreN_2 {s0 s1 : Slot} {o : Slot} {t : List Slot} {x : Int32} {pc' : Nat} (hd : decode code pc = .ok (.istore_n 2, 1)) (ho : ok1 o = true) (hp : pc + 1 = pc') (w : WP l Z a0 n0 R y code mx ret cells slots pc' (s0 :: s1 :: .val (.int x) :: t) st H Q) : WP l Z a0 n0 R y code mx ret cells slots pc (s0 :: s1 :: o :: t) (.int x :: st) H Q := by
  subst hp
  exact pure (fun p e m below c T t h hx hc' hs => XS.istoreN h hx rfl (hb hc' hd) rfl (stl1 [s0, s1] ho rfl) hs) w
theorem istoreN_3 {s0 s1 s2 : Slot} {o : Slot} {t : List Slot} {x : Int32} {pc' : Nat} (hd : decode code pc = .ok (.istore_n 3, 1)) (ho : ok1 o = true) (hp : pc + 1 = pc') (w : WP l Z a0 n0 R y code mx ret cells slots pc' (s0 :: s1 :: s2 :: .val (.int x) :: t) st H Q) : WP l Z a0 n0 R y code mx ret cells slots pc (s0 :: s1 :: s2 :: o :: t) (.int x :: st) H Q := by
  subst hp
  exact pure (fun p e m below c T t h hx hc' hs => XS.istoreN h hx rfl (hb hc' hd) rfl (stl1 [s0, s1, s2] ho rfl) hs) w
theorem istore_4 {s0 s1 s2 s3 : Slot} {o : Slot} {t : List Slot} {x : Int32} {pc' : Nat} (hd : decode code pc = .ok (.istore 4, 2)) (ho : ok1 o = true) (hp : pc + 2 = pc') (w : WP l Z a0 n0 R y code mx ret cells slots pc' (s0 :: s1 :: s2 :: s3 :: .val (.int x) :: t) st H Q) : WP l Z a0 n0 R y code mx ret cells slots pc (s0 :: s1 :: s2 :: s3 :: o :: t) (.int x :: st) H Q := by
  subst hp
  exact pure (fun p e m below c T t h hx hc' hs => XS.istore h hx rfl (hb hc' hd) rfl (stl1 [s0, s1, s2, s3] ho rfl) hs) w
theorem istore_5 {s0 s1 s2 s3 s4 : Slot} {o : Slot} {t : List Slot} {x : Int32} {pc' : Nat} (hd : decode code pc = .ok (.istore 5, 2)) (ho : ok1 o = true) (hp : pc + 2 = pc') (w : WP l Z a0 n0 R y code mx ret cells slots pc' (s0 :: s1 :: s2 :: s3 :: s4 :: .val (.int x) :: t) st H Q) : WP l Z a0 n0 R y code mx ret cells slots pc (s0 :: s1 :: s2 :: s3 :: s4 :: o :: t) (.int x :: st) H Q := by
  subst hp
  exact pure (fun p e m below c T t h hx hc' hs => XS.istore h hx rfl (hb hc' hd) rfl (stl1 [s0, s1, s2, s3, s4] ho rfl) hs) w
theorem ldcI {i : Nat} {n : Int32} {pc' : Nat} (hw : (Cond.constant y.cls i n).before a0 Z = true) (hd : decode code pc = .ok (.ldc i, 2)) (hp : pc + 2 = pc') (w : WP l Z a0 n0 R y code mx ret cells slots pc' Ls (.int n :: st) H Q) : WP l Z a0 n0 R y code mx ret cells slots pc Ls st H Q := by
  subst hp
  exact stepT (fun p e s m args below meth c T locs X hx hZ hc hm ho hR => ⟨T, X, rfl, X.ldcInt hx ho (mvT hZ hw) (g := mkF m pc ⟨Ls⟩ st) rfl (hb hc hd)⟩) w
theorem leaveW {v : Option Value} {st : List Value} (hv : ret = none → v = none) (q : Q v H)
    (h : ∀ (p : Program) (e : Env) (s : State) (m : MethodId) (args : Array Value) (below : List Frame) (meth : Method) (c : Code) (T : State) (locs : List Loc) (fs : List Frame), Stand p l e R s m args below meth c T locs cells slots → p.tables.exec = Jvm.exec → c.code = code → meth.sig.returnType = ret → (∀ (f : JFrame) (acts : List Action), f.method = m → f.locked = none → f.entered = [] → (doReturn e (T.setTop f) acts v).1 = T.setFrames fs) → Steps p.tables e below (T.setTop (mkF m pc ⟨Ls⟩ st)) (T.setFrames fs)) : WP l Z a0 n0 R y code mx ret cells slots pc Ls st H Q := by
  intro p e s m args below meth c T locs X hx hZ hc hm ho hn hr hl hF hR g1 g2
  obtain ⟨fs, hrr, hrun, hended, hW, hsame⟩ := X.leave (v := v) (fun k => hv (by rw [← hr]; exact k)) hl
  exact ⟨v, H, locs, _, h p e s m args below meth c T locs fs X hx hc hr hrr, hrun, hended, hF, hR, q, hW, hsame.mono g1 g2⟩
theorem ireturn {z : Int32} (hret : ret = some .int) (hd : decode code pc = .ok (.ireturn, 1)) (q : Q (some (.int z)) H) : WP l Z a0 n0 R y code mx ret cells slots pc Ls (.int z :: st) H Q :=
  leaveW (fun k => by rw [hret] at k; cases k) q fun p e s m args below meth c T locs fs X hx hc hr hrr => retI X hx (hr.trans hret) (hb hc hd) hrr
theorem zreturn {z : Int32} (hret : ret = some .boolean) (hd : decode code pc = .ok (.ireturn, 1)) (q : Q (some (.int (z &&& 1))) H) : WP l Z a0 n0 R y code mx ret cells slots pc Ls (.int z :: st) H Q :=
  leaveW (fun k => by rw [hret] at k; cases k) q fun p e s m args below meth c T locs fs X hx hc hr hrr => retN X hx (t := .boolean) (hr.trans hret) (by simp) (hb hc hd) hrr
/-- what a call by a contract leaves -/
def After (l : Launch) (Z : State) (a0 : Array Value) (n0 : Nat) (R : Room) (y : MethodName) (code : ByteArray) (mx : Nat) (ret : Option FieldType) (cells slots pc : Nat) (Ls : List Slot) (st : List Value) (Q : Option Value → MH → Prop) : Option Value → MH → Prop
  | some r, H' => WP l Z a0 n0 R y code mx ret cells slots pc Ls (r :: st) H' Q
  | none, H' => WP l Z a0 n0 R y code mx ret cells slots pc Ls st H' Q
theorem After.to {v : Option Value} {H' : MH} (h : After l Z a0 n0 R y code mx ret cells slots pc Ls st Q v H') : WP l Z a0 n0 R y code mx ret cells slots pc Ls (v.toList ++ st) H' Q := by
  cases v <;> exact h
theorem callSG {z : MethodName} {zc : ByteArray} {zm : Nat} {zr : Option FieldType} {ps : List FieldType} {i : Nat} {rm : Room} {pc' : Nat} (W : Nat) (argsL : List Value) {rest : List Value} (w1 : (Cond.methodLink y.cls i z).before a0 Z = true) (w2 : (Cond.static z).before a0 Z = true) (w3 : (Cond.initialized z.cls).before a0 Z = true) (w4 : (Cond.code z zc zm zr).before a0 Z = true) (hy : z.cls ≠ "java/lang/invoke/MethodHandle" ∧ z.cls ≠ "java/lang/invoke/VarHandle") (hds : parseMethodDescriptor z.desc = some ⟨ps, zr⟩) (hlen : argsL.length = ps.length) (hd : decode code pc = .ok (.invokestatic i, 3)) (hs : Ls.length = mx) (hW : (rest.map fun v => v.category).sum = W) (hf : rm.frames + 1 ≤ R.frames) (hl : W + (zm + 11) + rm.locals ≤ R.locals) (hc : cells + rm.cells ≤ R.cells) (hsl : slots + rm.slots ≤ R.slots) (hp : pc + 3 = pc') {cells' slots' : Nat} (hc' : cells + rm.cells = cells') (hs' : slots + rm.slots = slots') (hst : st = argsL.reverse ++ rest)
    (k : Con l Z a0 n0 z zc zm zr rm argsL.toArray H (After l Z a0 n0 R y code mx ret cells' slots' pc' Ls rest Q)) : WP l Z a0 n0 R y code mx ret cells slots pc Ls st H Q := by
  subst hp hst hc' hs'
  intro p e s m args below meth c T locs X hx hZ hcode hm ho hnm hr hlk hF hR g1 g2
  obtain ⟨v, vm, ⟨T', L', k', n'⟩, -, X', ⟨Lc, ⟨q1, H', q2, q3⟩, e1, e2, e3⟩, st'⟩ := Jvm.LawKit.callS X hx (y := z) ho (mvT hZ w1) (mvT hZ w2) (mvT hZ w3) (mvT hZ w4) hy (backOf (W := W) (h := T.heap) (Q := fun v h L => Fr n0 L ∧ ∃ H', Rel Z a0 n0 H' h ∧ After l Z a0 n0 R y code mx ret (cells + rm.cells) (slots + rm.slots) (pc + 3) Ls rest Q v H') (k [] T.heap hR) hZ w4 w3 hf hl) (g := mkF m pc ⟨Ls⟩ (argsL.reverse ++ rest)) rfl (by rw [hm]; simpa using hs) (argsL := argsL) (rest := rest) (lenOf hds hlen) rfl (by show 2 * 0 + _ ≤ _; omega) (hb hcode hd) (fun _ _ => ⟨rfl, rfl, hc, hsl⟩)
  dsimp only [Pt.U, Pt.locs, Pt.cells, Pt.slots] at X' e1 e2 e3 st'
  subst e1 e2 e3
  obtain ⟨v2, H2, L2, s2, k1, k2⟩ := (After.to q3) p e s m args below meth c T' _ X' hx hZ hcode hm ho hnm hr hlk (Fr.app hF q1) q2 hc hsl
  exact ⟨v2, H2, L2, s2, st' _ k1, k2⟩
theorem afterS {r : Value} {H' : MH} (h : WP l Z a0 n0 R y code mx ret cells slots pc Ls (r :: st) H' Q) : After l Z a0 n0 R y code mx ret cells slots pc Ls st Q (some r) H' := h
theorem callS_1 {z : MethodName} {zc : ByteArray} {zm : Nat} {zr : Option FieldType} {ps : List FieldType} {i : Nat} {rm : Room} {pc' : Nat} (W : Nat) {v0 : Value} {rest : List Value} (w1 : (Cond.methodLink y.cls i z).before a0 Z = true) (w2 : (Cond.static z).before a0 Z = true) (w3 : (Cond.initialized z.cls).before a0 Z = true) (w4 : (Cond.code z zc zm zr).before a0 Z = true) (hy : z.cls ≠ "java/lang/invoke/MethodHandle" ∧ z.cls ≠ "java/lang/invoke/VarHandle") (hds : parseMethodDescriptor z.desc = some ⟨ps, zr⟩) (hlen : 1 = ps.length) (hd : decode code pc = .ok (.invokestatic i, 3)) (hs : Ls.length = mx) (hW : (rest.map fun v => v.category).sum = W) (hf : rm.frames + 1 ≤ R.frames) (hl : W + (zm + 11) + rm.locals ≤ R.locals) (hc : cells + rm.cells ≤ R.cells) (hsl : slots + rm.slots ≤ R.slots) (hp : pc + 3 = pc') {cells' slots' : Nat} (hc' : cells + rm.cells = cells') (hs' : slots + rm.slots = slots') (k : Con l Z a0 n0 z zc zm zr rm #[v0] H (After l Z a0 n0 R y code mx ret cells' slots' pc' Ls rest Q)) : WP l Z a0 n0 R y code mx ret cells slots pc Ls (v0 :: rest) H Q := callSG W [v0] w1 w2 w3 w4 hy hds hlen hd hs hW hf hl hc hsl hp hc' hs' rfl k
end Jvm.Wp
namespace Jvm.Pilot.@@N@@
open Jvm Jvm.ClassFile Sem Op Lib Jvm.Free Jvm.Stand Jvm.LawKit Jvm.RoadKit Bundle Jvm.Pilot.@@N@@.Jvm.D
abbrev Hw (Z : State) (a0 : Array Value) : Prop := ∀ d ∈ tables_1, d.before a0 Z = true
theorem w0 {Z : State} {a0 : Array Value} (hw : Hw Z a0) : (Jvm.Cond.constant "com/example/dragnet/dragnet/Utf8SecondBytePinLaw" (7 : Nat) (2147483647 : Int32)).before a0 Z = true := hw _ (List.mem_of_getElem? (i := 0) rfl)
theorem w1 {Z : State} {a0 : Array Value} (hw : Hw Z a0) : (Jvm.Cond.constant "com/example/dragnet/dragnet/Utf8SecondBytePinLaw" (8 : Nat) (1113984 : Int32)).before a0 Z = true := hw _ (List.mem_of_getElem? (i := 1) rfl)
theorem w2 {Z : State} {a0 : Array Value} (hw : Hw Z a0) : (Jvm.Cond.methodLink "com/example/dragnet/dragnet/Utf8SecondBytePinLaw" (9 : Nat) ({ cls := "com/example/dragnet/dragnet/Utf8", name := "secondByte", desc := "(I)I" } : Jvm.MethodName)).before a0 Z = true := hw _ (List.mem_of_getElem? (i := 2) rfl)
theorem w3 {Z : State} {a0 : Array Value} (hw : Hw Z a0) : (Jvm.Cond.static ({ cls := "com/example/dragnet/dragnet/Utf8", name := "secondByte", desc := "(I)I" } : Jvm.MethodName)).before a0 Z = true := hw _ (List.mem_of_getElem? (i := 3) rfl)
theorem w4 {Z : State} {a0 : Array Value} (hw : Hw Z a0) : (Jvm.Cond.initialized "com/example/dragnet/dragnet/Utf8").before a0 Z = true := hw _ (List.mem_of_getElem? (i := 4) rfl)
theorem w5 {Z : State} {a0 : Array Value} (hw : Hw Z a0) : (Jvm.Cond.code ({ cls := "com/example/dragnet/dragnet/Utf8", name := "secondByte", desc := "(I)I" } : Jvm.MethodName) prog_15_method_10_code (2 : Nat) (Option.some Jvm.ClassFile.FieldType.int)).before a0 Z = true := hw _ (List.mem_of_getElem? (i := 5) rfl)
theorem w6 {Z : State} {a0 : Array Value} (hw : Hw Z a0) : (Jvm.Cond.constant "com/example/dragnet/dragnet/Utf8" (57 : Nat) (65536 : Int32)).before a0 Z = true := hw _ (List.mem_of_getElem? (i := 6) rfl)
theorem w7 {Z : State} {a0 : Array Value} (hw : Hw Z a0) : (Jvm.Cond.constant "com/example/dragnet/dragnet/Utf8SecondBytePinLaw" (15 : Nat) (65536 : Int32)).before a0 Z = true := hw _ (List.mem_of_getElem? (i := 7) rfl)
theorem d1_0 : decode prog_15_method_10_code 0 = .ok (.iload_n 0, 1) := by decide +kernel
theorem d1_1 : decode prog_15_method_10_code 1 = .ok (.sipush 2048, 3) := by decide +kernel
theorem d1_4 : decode prog_15_method_10_code 4 = .ok (.if_icmp .ge 8, 3) := by decide +kernel
theorem d1_7 : decode prog_15_method_10_code 7 = .ok (.iload_n 0, 1) := by decide +kernel
theorem d1_8 : decode prog_15_method_10_code 8 = .ok (.istore_n 1, 1) := by decide +kernel
theorem d1_9 : decode prog_15_method_10_code 9 = .ok (.goto 22, 3) := by decide +kernel
theorem d1_12 : decode prog_15_method_10_code 12 = .ok (.iload_n 0, 1) := by decide +kernel
theorem d1_13 : decode prog_15_method_10_code 13 = .ok (.ldc 57, 2) := by decide +kernel
theorem d1_15 : decode prog_15_method_10_code 15 = .ok (.if_icmp .ge 11, 3) := by decide +kernel
theorem d1_18 : decode prog_15_method_10_code 18 = .ok (.iload_n 0, 1) := by decide +kernel
theorem d1_19 : decode prog_15_method_10_code 19 = .ok (.bipush 6, 2) := by decide +kernel
theorem d1_21 : decode prog_15_method_10_code 21 = .ok (.iushr, 1) := by decide +kernel
theorem d1_22 : decode prog_15_method_10_code 22 = .ok (.istore_n 1, 1) := by decide +kernel
theorem d1_23 : decode prog_15_method_10_code 23 = .ok (.goto 8, 3) := by decide +kernel
theorem d1_26 : decode prog_15_method_10_code 26 = .ok (.iload_n 0, 1) := by decide +kernel
theorem d1_27 : decode prog_15_method_10_code 27 = .ok (.bipush 12, 2) := by decide +kernel
theorem d1_29 : decode prog_15_method_10_code 29 = .ok (.iushr, 1) := by decide +kernel
theorem d1_30 : decode prog_15_method_10_code 30 = .ok (.istore_n 1, 1) := by decide +kernel
theorem d1_31 : decode prog_15_method_10_code 31 = .ok (.sipush 128, 3) := by decide +kernel
theorem d1_34 : decode prog_15_method_10_code 34 = .ok (.iload_n 1, 1) := by decide +kernel
theorem d1_35 : decode prog_15_method_10_code 35 = .ok (.bipush 63, 2) := by decide +kernel
theorem d1_37 : decode prog_15_method_10_code 37 = .ok (.iand, 1) := by decide +kernel
theorem d1_38 : decode prog_15_method_10_code 38 = .ok (.ior, 1) := by decide +kernel
theorem d1_39 : decode prog_15_method_10_code 39 = .ok (.ireturn, 1) := by decide +kernel
theorem pd0 : parseMethodDescriptor "(I)I" = some ⟨[.int], some .int⟩ := by decide +kernel
abbrev nm0 : MethodName := x
abbrev rm0 : Room := room_1
abbrev C0 (l : Launch) (Z : State) (a0 : Array Value) (n0 : Nat) := Wp.Con l Z a0 n0 nm0 code maxLocals ret rm0
abbrev W0 (l : Launch) (Z : State) (a0 : Array Value) (n0 : Nat) := Wp.WP l Z a0 n0 rm0 nm0 code maxLocals ret
theorem pn0 : plainName nm0.cls = true := by first | (simp [plainName, overriddenIn, nm0, x]; done) | decide +kernel
theorem ef0 (m : MethodId) (x0 : Int32) : entryFrame m #[(.int x0)] maxLocals = mkF m 0 ⟨[.val (.int x0), .unset, .unset, .unset, .unset, .unset]⟩ [] := by first | rfl | (simp [entryFrame, mkF, argsToLocals, Value.category, maxLocals]; done)
abbrev nm1 : MethodName := ⟨"com/example/dragnet/dragnet/Utf8", "secondByte", "(I)I"⟩
abbrev rm1 : Room := { frames := 0, cells := 0, slots := 0, locals := 0 }
abbrev C1 (l : Launch) (Z : State) (a0 : Array Value) (n0 : Nat) := Wp.Con l Z a0 n0 nm1 prog_15_method_10_code 2 (some .int) rm1
abbrev W1 (l : Launch) (Z : State) (a0 : Array Value) (n0 : Nat) := Wp.WP l Z a0 n0 rm1 nm1 prog_15_method_10_code 2 (some .int)
theorem pn1 : plainName nm1.cls = true := by first | (simp [plainName, overriddenIn, nm1, x]; done) | decide +kernel
theorem ef1 (m : MethodId) (x0 : Int32) : entryFrame m #[(.int x0)] 2 = mkF m 0 ⟨[.val (.int x0), .unset]⟩ [] := by first | rfl | (simp [entryFrame, mkF, argsToLocals, Value.category]; done)
set_option maxRecDepth 65536
theorem own_m63 : ∀ i : Fin 32, (63#32).getLsbD i.1 = decide (i.1 < 6) := by decide +kernel
theorem own_hole (x : BitVec 32) (s : Nat) (M : BitVec 32) (hM : ∀ i : Fin 32, M.getLsbD i.1 = !(decide (s ≤ i.1) && decide (i.1 < s + 6))) : (x &&& M) ||| (((x >>> s) &&& 63#32) <<< s) = x := by
  apply BitVec.eq_of_getLsbD_eq
  intro i hi
  simp only [BitVec.getLsbD_or, BitVec.getLsbD_and, BitVec.getLsbD_shiftLeft, BitVec.getLsbD_ushiftRight]
  rw [hM ⟨i, hi⟩]
  by_cases h1 : s ≤ i
  · have h2 := own_m63 ⟨i - s, by omega⟩
    simp only at h2
    rw [h2, show s + (i - s) = i by omega]
    by_cases h3 : i < s + 6
    · have : i - s < 6 := by omega
      simp [h1, h3, hi, this, Nat.not_lt.mpr h1]
    · have : ¬ i - s < 6 := by omega
      simp [h1, h3, hi, this, Nat.not_lt.mpr h1]
  · simp [h1, hi, Nat.lt_of_not_le h1]
def own_part (c : Int32) : Int32 := if c.toInt < 2048 then c else if c.toInt < 65536 then (c.toUInt32 >>> ((6 : Int32) &&& 31).toUInt32).toInt32 else (c.toUInt32 >>> ((12 : Int32) &&& 31).toUInt32).toInt32
theorem own_y (y : Int32) : 128 ≤ ((128 : Int32) ||| (y &&& 63)).toInt ∧ ((128 : Int32) ||| (y &&& 63)).toInt ≤ 191 ∧ ((128 : Int32) ||| (y &&& 63)) - 128 = y &&& 63 := by
  have h1 : (y &&& 63).toInt = y.toInt % (2 ^ 6 : Nat) := c_mask y 63 6 (by decide) (by decide)
  have h := c_or 128 (y &&& 63) 7 (by decide) 128 rfl (by decide) (by omega) (by omega)
  have h2 := rng32 ((128 : Int32) ||| (y &&& 63))
  have h3 : (128 : Int32).toInt = 128 := rfl
  have h4 : ((128 : Int32) ||| (y &&& 63)).toInt = 128 + (y &&& 63).toInt := by omega
  refine ⟨by omega, by omega, Int32.toInt_inj.mp ?_⟩
  have h5 := c_isub ((128 : Int32) ||| (y &&& 63)) 128
  have h6 := rng32 (((128 : Int32) ||| (y &&& 63)) - 128)
  omega
theorem own_reb (c : Int32) (s : Int32) (y : Int32) (h : (s = 0 ∧ y = c) ∨ (s = 6 ∧ y = (c.toUInt32 >>> ((6 : Int32) &&& 31).toUInt32).toInt32) ∨ (s = 12 ∧ y = (c.toUInt32 >>> ((12 : Int32) &&& 31).toUInt32).toInt32)) :
    ((c &&& (((63 : Int32) <<< (s &&& 31)) ^^^ (-1))) ||| ((((128 : Int32) ||| (y &&& 63)) - 128) <<< (s &&& 31))) = c := by
  rw [(own_y y).2.2]
  apply Int32.toBitVec_inj.mp
  rcases h with ⟨rfl, rfl⟩ | ⟨rfl, rfl⟩ | ⟨rfl, rfl⟩
  · have := own_hole y.toBitVec 0 (((63 : Int32) <<< ((0 : Int32) &&& 31)) ^^^ (-1)).toBitVec (by decide +kernel)
    simpa using this
  · exact own_hole c.toBitVec 6 _ (by decide +kernel)
  · exact own_hole c.toBitVec 12 _ (by decide +kernel)
theorem con1 {l : Launch} {Z : State} {a0 : Array Value} {n0 : Nat} (hw : Hw Z a0) (c : Int32) (H : Wp.MH) :
    C1 l Z a0 n0 #[.int c] H (fun v H' => v = some (.int (128 ||| (own_part c &&& 63))) ∧ H' = H) := by
  refine Wp.Con.intro pn1 (fun m => ef1 m c) ?_
  refine Wp.iloadN (pc' := 1) d1_0 rfl rfl ?_
  refine Wp.sipush (2048) (pc' := 4) d1_1 rfl rfl ?_
  refine Wp.icmp_ge (pt := 12) (pf := 7) d1_4 (by decide) rfl (fun hc4 => ?_) (fun hc4 => ?_)
  · refine Wp.iloadN (pc' := 13) d1_12 rfl rfl ?_
    refine Wp.ldcI (pc' := 15) (w6 hw) d1_13 rfl ?_
    refine Wp.icmp_ge (pt := 26) (pf := 18) d1_15 (by decide) rfl (fun hc15 => ?_) (fun hc15 => ?_)
    · refine Wp.iloadN (pc' := 27) d1_26 rfl rfl ?_
      refine Wp.bipush (12) (pc' := 29) d1_27 rfl rfl ?_
      refine Wp.iushr (pc' := 30) d1_29 rfl ?_
      refine Wp.istoreN_1 (pc' := 31) d1_30 rfl rfl ?_
      refine Wp.sipush (128) (pc' := 34) d1_31 rfl rfl ?_
      refine Wp.iloadN (pc' := 35) d1_34 rfl rfl ?_
      refine Wp.bipush (63) (pc' := 37) d1_35 rfl rfl ?_
      refine Wp.iand (pc' := 38) d1_37 rfl ?_
      refine Wp.ior (pc' := 39) d1_38 rfl ?_
      refine Wp.ireturn rfl d1_39 ?_
      refine ⟨?_, rfl⟩
      unfold own_part
      simp only [Int32.reduceToInt] at hc4 hc15
      first | (rw [if_pos (by omega)]; done) | (rw [if_neg (by omega), if_pos (by omega)]; done) | (rw [if_neg (by omega), if_neg (by omega)]; done)
    · refine Wp.iloadN (pc' := 19) d1_18 rfl rfl ?_
      refine Wp.bipush (6) (pc' := 21) d1_19 rfl rfl ?_
      refine Wp.iushr (pc' := 22) d1_21 rfl ?_
      refine Wp.istoreN_1 (pc' := 23) d1_22 rfl rfl ?_
      refine Wp.goto (pc' := 31) d1_23 (by decide) ?_
      refine Wp.sipush (128) (pc' := 34) d1_31 rfl rfl ?_
      refine Wp.iloadN (pc' := 35) d1_34 rfl rfl ?_
      refine Wp.bipush (63) (pc' := 37) d1_35 rfl rfl ?_
      refine Wp.iand (pc' := 38) d1_37 rfl ?_
      refine Wp.ior (pc' := 39) d1_38 rfl ?_
      refine Wp.ireturn rfl d1_39 ?_
      refine ⟨?_, rfl⟩
      unfold own_part
      simp only [Int32.reduceToInt] at hc4 hc15
      first | (rw [if_pos (by omega)]; done) | (rw [if_neg (by omega), if_pos (by omega)]; done) | (rw [if_neg (by omega), if_neg (by omega)]; done)
  · refine Wp.iloadN (pc' := 8) d1_7 rfl rfl ?_
    refine Wp.istoreN_1 (pc' := 9) d1_8 rfl rfl ?_
    refine Wp.goto (pc' := 31) d1_9 (by decide) ?_
    refine Wp.sipush (128) (pc' := 34) d1_31 rfl rfl ?_
    refine Wp.iloadN (pc' := 35) d1_34 rfl rfl ?_
    refine Wp.bipush (63) (pc' := 37) d1_35 rfl rfl ?_
    refine Wp.iand (pc' := 38) d1_37 rfl ?_
    refine Wp.ior (pc' := 39) d1_38 rfl ?_
    refine Wp.ireturn rfl d1_39 ?_
    refine ⟨?_, rfl⟩
    unfold own_part
    simp only [Int32.reduceToInt] at hc4
    first | (rw [if_pos (by omega)]; done) | (rw [if_neg (by omega), if_pos (by omega)]; done) | (rw [if_neg (by omega), if_neg (by omega)]; done)
theorem law_con (l : Launch) (Z : State) (a0 : Array Value) (n0 : Nat) (hw : Hw Z a0) (x : Int32) :
    C0 l Z a0 n0 #[.int x] [] (fun v _ => v = some (.int 1)) := by
  refine Wp.Con.intro pn0 (fun m => ef0 m x) ?_
  refine Wp.sipush (128) (pc' := 3) at_0 rfl rfl ?_
  refine Wp.iloadN (pc' := 4) at_3 rfl rfl ?_
  refine Wp.ldcI (pc' := 6) (w0 hw) at_4 rfl ?_
  refine Wp.iand (pc' := 7) at_6 rfl ?_
  refine Wp.ldcI (pc' := 9) (w1 hw) at_7 rfl ?_
  refine Wp.irem (pc' := 10) at_9 (by decide) rfl ?_
  refine Wp.iadd (pc' := 11) at_10 rfl ?_
  refine Wp.istoreN_1 (pc' := 12) at_11 rfl rfl ?_
  refine Wp.iloadN (pc' := 13) at_12 rfl rfl ?_
  refine Wp.callS_1 0 (pc' := 16) (rm := rm1) (w2 hw) (w3 hw) (w4 hw) (w5 hw) (by decide) pd0 rfl at_13 rfl rfl (by decide) (by decide) (by decide) (by decide) rfl rfl rfl ?_
  refine (con1 hw _ _).mono ?_
  rintro _ _ ⟨rfl, rfl⟩
  generalize hcp : (128 : Int32) + (x &&& 2147483647) % 1113984 = c
  have hy := own_y (own_part c)
  refine Wp.afterS ?_
  refine Wp.istoreN_2 (pc' := 17) at_16 rfl rfl ?_
  refine Wp.iloadN (pc' := 18) at_17 rfl rfl ?_
  refine Wp.sipush (128) (pc' := 21) at_18 rfl rfl ?_
  refine Wp.icmp_lt (pt := 31) (pf := 24) at_21 (by decide) rfl (fun hc21 => ?_) (fun hc21 => ?_)
  · refine Wp.iconst (0) (pc' := 32) at_31 rfl rfl ?_
    refine Wp.zreturn rfl at_32 ?_
    exfalso; simp only [Int32.reduceToInt] at hc21; first | omega | (simp only [Int32.reduceToInt] at hc28; omega)
  · refine Wp.iloadN (pc' := 25) at_24 rfl rfl ?_
    refine Wp.sipush (191) (pc' := 28) at_25 rfl rfl ?_
    refine Wp.icmp_le (pt := 33) (pf := 31) at_28 (by decide) rfl (fun hc28 => ?_) (fun hc28 => ?_)
    · refine Wp.iloadN (pc' := 34) at_33 rfl rfl ?_
      refine Wp.sipush (2048) (pc' := 37) at_34 rfl rfl ?_
      refine Wp.icmp_ge (pt := 45) (pf := 40) at_37 (by decide) rfl (fun hc37 => ?_) (fun hc37 => ?_)
      · refine Wp.iloadN (pc' := 46) at_45 rfl rfl ?_
        refine Wp.ldcI (pc' := 48) (w7 hw) at_46 rfl ?_
        refine Wp.icmp_ge (pt := 57) (pf := 51) at_48 (by decide) rfl (fun hc48 => ?_) (fun hc48 => ?_)
        · refine Wp.bipush (12) (pc' := 59) at_57 rfl rfl ?_
          refine Wp.istoreN_3 (pc' := 60) at_59 rfl rfl ?_
          refine Wp.iloadN (pc' := 61) at_60 rfl rfl ?_
          refine Wp.sipush (128) (pc' := 64) at_61 rfl rfl ?_
          refine Wp.isub (pc' := 65) at_64 rfl ?_
          refine Wp.istore_4 (pc' := 67) at_65 rfl rfl ?_
          refine Wp.iloadN (pc' := 68) at_67 rfl rfl ?_
          refine Wp.bipush (63) (pc' := 70) at_68 rfl rfl ?_
          refine Wp.iloadN (pc' := 71) at_70 rfl rfl ?_
          refine Wp.ishl (pc' := 72) at_71 rfl ?_
          refine Wp.iconst (-1) (pc' := 73) at_72 rfl rfl ?_
          refine Wp.ixor (pc' := 74) at_73 rfl ?_
          refine Wp.iand (pc' := 75) at_74 rfl ?_
          refine Wp.iload (pc' := 77) at_75 rfl rfl ?_
          refine Wp.iloadN (pc' := 78) at_77 rfl rfl ?_
          refine Wp.ishl (pc' := 79) at_78 rfl ?_
          refine Wp.ior (pc' := 80) at_79 rfl ?_
          refine Wp.istore_5 (pc' := 82) at_80 rfl rfl ?_
          refine Wp.iload (pc' := 84) at_82 rfl rfl ?_
          refine Wp.iloadN (pc' := 85) at_84 rfl rfl ?_
          refine Wp.icmp_ne (pt := 92) (pf := 88) at_85 (by decide) rfl (fun hc85 => ?_) (fun hc85 => ?_)
          · refine Wp.iconst (0) (pc' := 93) at_92 rfl rfl ?_
            refine Wp.zreturn rfl at_93 ?_
            first | rfl | (exfalso; apply hc85; refine own_reb c _ _ ?_; unfold own_part; first | (simp only [Int32.reduceToInt] at hc37; rw [if_pos (by omega)]; exact Or.inl ⟨rfl, rfl⟩) | (simp only [Int32.reduceToInt] at hc37 hc48; rw [if_neg (by omega), if_pos (by omega)]; exact Or.inr (Or.inl ⟨rfl, rfl⟩)) | (simp only [Int32.reduceToInt] at hc37 hc48; rw [if_neg (by omega), if_neg (by omega)]; exact Or.inr (Or.inr ⟨rfl, rfl⟩)))
          · refine Wp.iconst (1) (pc' := 89) at_88 rfl rfl ?_
            refine Wp.goto (pc' := 93) at_89 (by decide) ?_
            refine Wp.zreturn rfl at_93 ?_
            first | rfl | (exfalso; apply hc85; refine own_reb c _ _ ?_; unfold own_part; first | (simp only [Int32.reduceToInt] at hc37; rw [if_pos (by omega)]; exact Or.inl ⟨rfl, rfl⟩) | (simp only [Int32.reduceToInt] at hc37 hc48; rw [if_neg (by omega), if_pos (by omega)]; exact Or.inr (Or.inl ⟨rfl, rfl⟩)) | (simp only [Int32.reduceToInt] at hc37 hc48; rw [if_neg (by omega), if_neg (by omega)]; exact Or.inr (Or.inr ⟨rfl, rfl⟩)))
        · refine Wp.bipush (6) (pc' := 53) at_51 rfl rfl ?_
          refine Wp.istoreN_3 (pc' := 54) at_53 rfl rfl ?_
          refine Wp.goto (pc' := 60) at_54 (by decide) ?_
          refine Wp.iloadN (pc' := 61) at_60 rfl rfl ?_
          refine Wp.sipush (128) (pc' := 64) at_61 rfl rfl ?_
          refine Wp.isub (pc' := 65) at_64 rfl ?_
          refine Wp.istore_4 (pc' := 67) at_65 rfl rfl ?_
          refine Wp.iloadN (pc' := 68) at_67 rfl rfl ?_
          refine Wp.bipush (63) (pc' := 70) at_68 rfl rfl ?_
          refine Wp.iloadN (pc' := 71) at_70 rfl rfl ?_
          refine Wp.ishl (pc' := 72) at_71 rfl ?_
          refine Wp.iconst (-1) (pc' := 73) at_72 rfl rfl ?_
          refine Wp.ixor (pc' := 74) at_73 rfl ?_
          refine Wp.iand (pc' := 75) at_74 rfl ?_
          refine Wp.iload (pc' := 77) at_75 rfl rfl ?_
          refine Wp.iloadN (pc' := 78) at_77 rfl rfl ?_
          refine Wp.ishl (pc' := 79) at_78 rfl ?_
          refine Wp.ior (pc' := 80) at_79 rfl ?_
          refine Wp.istore_5 (pc' := 82) at_80 rfl rfl ?_
          refine Wp.iload (pc' := 84) at_82 rfl rfl ?_
          refine Wp.iloadN (pc' := 85) at_84 rfl rfl ?_
          refine Wp.icmp_ne (pt := 92) (pf := 88) at_85 (by decide) rfl (fun hc85 => ?_) (fun hc85 => ?_)
          · refine Wp.iconst (0) (pc' := 93) at_92 rfl rfl ?_
            refine Wp.zreturn rfl at_93 ?_
            first | rfl | (exfalso; apply hc85; refine own_reb c _ _ ?_; unfold own_part; first | (simp only [Int32.reduceToInt] at hc37; rw [if_pos (by omega)]; exact Or.inl ⟨rfl, rfl⟩) | (simp only [Int32.reduceToInt] at hc37 hc48; rw [if_neg (by omega), if_pos (by omega)]; exact Or.inr (Or.inl ⟨rfl, rfl⟩)) | (simp only [Int32.reduceToInt] at hc37 hc48; rw [if_neg (by omega), if_neg (by omega)]; exact Or.inr (Or.inr ⟨rfl, rfl⟩)))
          · refine Wp.iconst (1) (pc' := 89) at_88 rfl rfl ?_
            refine Wp.goto (pc' := 93) at_89 (by decide) ?_
            refine Wp.zreturn rfl at_93 ?_
            first | rfl | (exfalso; apply hc85; refine own_reb c _ _ ?_; unfold own_part; first | (simp only [Int32.reduceToInt] at hc37; rw [if_pos (by omega)]; exact Or.inl ⟨rfl, rfl⟩) | (simp only [Int32.reduceToInt] at hc37 hc48; rw [if_neg (by omega), if_pos (by omega)]; exact Or.inr (Or.inl ⟨rfl, rfl⟩)) | (simp only [Int32.reduceToInt] at hc37 hc48; rw [if_neg (by omega), if_neg (by omega)]; exact Or.inr (Or.inr ⟨rfl, rfl⟩)))
      · refine Wp.iconst (0) (pc' := 41) at_40 rfl rfl ?_
        refine Wp.istoreN_3 (pc' := 42) at_41 rfl rfl ?_
        refine Wp.goto (pc' := 60) at_42 (by decide) ?_
        refine Wp.iloadN (pc' := 61) at_60 rfl rfl ?_
        refine Wp.sipush (128) (pc' := 64) at_61 rfl rfl ?_
        refine Wp.isub (pc' := 65) at_64 rfl ?_
        refine Wp.istore_4 (pc' := 67) at_65 rfl rfl ?_
        refine Wp.iloadN (pc' := 68) at_67 rfl rfl ?_
        refine Wp.bipush (63) (pc' := 70) at_68 rfl rfl ?_
        refine Wp.iloadN (pc' := 71) at_70 rfl rfl ?_
        refine Wp.ishl (pc' := 72) at_71 rfl ?_
        refine Wp.iconst (-1) (pc' := 73) at_72 rfl rfl ?_
        refine Wp.ixor (pc' := 74) at_73 rfl ?_
        refine Wp.iand (pc' := 75) at_74 rfl ?_
        refine Wp.iload (pc' := 77) at_75 rfl rfl ?_
        refine Wp.iloadN (pc' := 78) at_77 rfl rfl ?_
        refine Wp.ishl (pc' := 79) at_78 rfl ?_
        refine Wp.ior (pc' := 80) at_79 rfl ?_
        refine Wp.istore_5 (pc' := 82) at_80 rfl rfl ?_
        refine Wp.iload (pc' := 84) at_82 rfl rfl ?_
        refine Wp.iloadN (pc' := 85) at_84 rfl rfl ?_
        refine Wp.icmp_ne (pt := 92) (pf := 88) at_85 (by decide) rfl (fun hc85 => ?_) (fun hc85 => ?_)
        · refine Wp.iconst (0) (pc' := 93) at_92 rfl rfl ?_
          refine Wp.zreturn rfl at_93 ?_
          first | rfl | (exfalso; apply hc85; refine own_reb c _ _ ?_; unfold own_part; first | (simp only [Int32.reduceToInt] at hc37; rw [if_pos (by omega)]; exact Or.inl ⟨rfl, rfl⟩) | (simp only [Int32.reduceToInt] at hc37 hc48; rw [if_neg (by omega), if_pos (by omega)]; exact Or.inr (Or.inl ⟨rfl, rfl⟩)) | (simp only [Int32.reduceToInt] at hc37 hc48; rw [if_neg (by omega), if_neg (by omega)]; exact Or.inr (Or.inr ⟨rfl, rfl⟩)))
        · refine Wp.iconst (1) (pc' := 89) at_88 rfl rfl ?_
          refine Wp.goto (pc' := 93) at_89 (by decide) ?_
          refine Wp.zreturn rfl at_93 ?_
          first | rfl | (exfalso; apply hc85; refine own_reb c _ _ ?_; unfold own_part; first | (simp only [Int32.reduceToInt] at hc37; rw [if_pos (by omega)]; exact Or.inl ⟨rfl, rfl⟩) | (simp only [Int32.reduceToInt] at hc37 hc48; rw [if_neg (by omega), if_pos (by omega)]; exact Or.inr (Or.inl ⟨rfl, rfl⟩)) | (simp only [Int32.reduceToInt] at hc37 hc48; rw [if_neg (by omega), if_neg (by omega)]; exact Or.inr (Or.inr ⟨rfl, rfl⟩)))
    · refine Wp.iconst (0) (pc' := 32) at_31 rfl rfl ?_
      refine Wp.zreturn rfl at_32 ?_
      exfalso; simp only [Int32.reduceToInt] at hc21; first | omega | (simp only [Int32.reduceToInt] at hc28; omega)
set_option maxRecDepth 65536 in
theorem comes_1 {Post : Tables → Env → Array Value → State → Outcome → State → Prop} (hpost : ∀ tb e args s v u, (limb_1_1.after args s (.returned v) u = true ∧ limb_1_2.after args s (.returned v) u = true ∧ True) → FrameEnd s (.returned v) u (Jvm.fieldLocs frame_1_writes args s ++ Jvm.arrayLocs frame_1_arrays args s ++ Jvm.staticLocs frame_1_statics s) room_1.cells room_1.slots → Post tb e args s (.returned v) u) :
    ArmFor flags0 classFile x code maxLocals ret World_1 tables_1 room_1 Calls_1 rest_1 Pre_1 Post := by
  intro l hfl _ _ p e ha hc hk s m args below hf hA hF happ hP
  obtain ⟨hcalls, hrest, hpre⟩ := hP
  obtain ⟨-, -, -, hnamed, -, -, -, hat⟩ := (Spec.applies_iff hf).mp happ
  obtain ⟨hg, hn⟩ := and_e (Cond.before_iff.mp (show (Jvm.Cond.and given_1 narrow_1).before args s = true from hpre))
  obtain ⟨hcnt, g0⟩ := and_e hg
  obtain ⟨y0, rfl⟩ : ∃ y0 : Value, args = #[y0] := by
    have hs : args.size = 1 := by simpa [Cond.value, given_1] using hcnt
    obtain ⟨L⟩ := args
    match L, hs with
    | [y0], _ => exact ⟨y0, rfl⟩
  have hw := fun d (hd : d ∈ tables_1) => atoms_spec (ws := Jvm.Cond.code x code maxLocals ret :: tables_1) hat d (List.mem_cons_of_mem _ hd)
  obtain ⟨i0, e0⟩ := is_v g0
  obtain rfl : y0 = .int i0 := Option.some.inj e0
  obtain ⟨n, o, h1, h2, h3, v, L, rfl, ⟨N, H', hR', rfl⟩, hq⟩ := law_con l s _ s.heap.size hw i0 tables_1 s.heap ⟨Nat.le_refl _, List.nodup_nil, fun _ q => nomatch q⟩ p e ha hc hk s m _ below hf ((Spec.applies_iff_loose hf).mp happ).1 ⟨rfl, State.Warmed39.refl s, rfl⟩ trivial
  refine ⟨n, _, h1, h2, h3, hpost _ _ _ _ _ _ ⟨Cond.after_iff.mpr rfl, Cond.after_iff.mpr (eq_i res_at (Term.int_eval (1)) rfl), trivial⟩ ⟨hq.1, hq.2.1, (hq.2.2.sift fun y hy => Or.inr (N y hy)).mono (by decide) (by decide)⟩⟩
theorem main_1_1 : Claimed_1_1 := comes_1 fun _ _ _ _ _ _ h hF => ⟨h.1, hF⟩
theorem main_1_2 : Claimed_1_2 := comes_1 fun _ _ _ _ _ _ h hF => ⟨h.2.1, hF⟩
end Jvm.Pilot.@@N@@
namespace Jvm.Pilot.@@N@@
open Jvm Jvm.ClassFile Sem Op Lib Jvm.Free Jvm.Stand Jvm.Pilot.@@N@@.Jvm.D
/-! MADE BY PROGRAM (witnessworld.py) out of the Statement's table words and the real class files: 9 classes; the members and pool entries that the words name. The judged class is class 1, her method 1. -/
namespace start1
open Jvm.ClassFile
def u (s : String) : CpInfo := .utf8 (stringToUtf16 s)
/-- a pool by its gaps: so many unusable entries, then the entry; so many at the end -/
def gap : Nat → List CpInfo → List CpInfo
  | 0, r => r
  | n + 1, r => .unusable :: gap n r
def poolList (es : List (Nat × CpInfo)) (last : Nat) : List CpInfo := es.foldr (fun e r => gap e.1 (e.2 :: r)) (gap last [])
def pool (es : List (Nat × CpInfo)) (last : Nat) : Array CpInfo := ⟨poolList es last⟩
def fileOf (pool : Array CpInfo) (this : Nat) (attrs : Array Attribute := #[]) (ms : Array MethodInfo := #[]) (fl : Nat := 33) (sup : Nat := 0) (ifs : Array Nat := #[]) (fds : Array FieldInfo := #[]) : ClassFile where
  minorVersion := 0
  majorVersion := 65
  constantPool := pool
  accessFlags := fl
  thisClass := this
  superClass := sup
  interfaces := ifs
  fields := fds
  methods := ms
  attributes := attrs
def plain (name : String) (sup : Option ClassId) : Class where
  name := name
  kind := .ordinary
  loader := none
  accessFlags := 33
  super := sup
  interfaces := #[]
  cf := none
  fields := #[]
  methods := #[]
  instanceTypes := #[]
  staticTypes := #[]
  resolved := #[]
  callSites := []
  init := .initialized
  statics := none
  mirror := none

def pool0 : Array CpInfo := pool [(5, u "<init>"), (0, u "()V"), (1, .class_ 10), (1, u "java/lang/Object")] 113

def k0m0 : Method := { name := "<init>", desc := "()V", sig := { parameters := [], returnType := none }, accessFlags := 1, code := none }
/-- java/lang/Object -/
def k0 : Class := { plain "java/lang/Object" none with
  accessFlags := 33
  interfaces := #[]
  cf := some (fileOf pool0 8 #[] #[{ accessFlags := 1, nameIndex := 5, descriptorIndex := 6, attributes := #[] }] 33 0 #[] #[])
  fields := #[]
  methods := #[k0m0]
  instanceTypes := #[]
  staticTypes := #[]
  resolved := Array.replicate 124 none
  statics := none }

def pool1 : Array CpInfo := pool [(2, .class_ 4), (1, u "java/lang/Object"), (0, u "<init>"), (0, u "()V"), (0, .integer 2147483647), (0, .integer 1113984), (0, .methodref 10 11), (0, .class_ 12), (0, .nameAndType 13 14), (0, u "com/example/dragnet/dragnet/Utf8"), (0, u "secondByte"), (0, u "(I)I"), (0, .integer 65536), (0, .class_ 17), (0, u "com/example/dragnet/dragnet/Utf8SecondBytePinLaw"), (2, u "law"), (0, u "(I)Z")] 3

def k1m0 : Method := { name := "<init>", desc := "()V", sig := { parameters := [], returnType := none }, accessFlags := 2, code := none }
def k1c1 : Code := { maxStack := 3, maxLocals := 6, code := code, exceptionTable := #[], attributes := #[] }
def k1m1 : Method := { name := "law", desc := "(I)Z", sig := { parameters := [.int], returnType := some .boolean }, accessFlags := 9, code := some k1c1 }
/-- com/example/dragnet/dragnet/Utf8SecondBytePinLaw -/
def k1 : Class := { plain "com/example/dragnet/dragnet/Utf8SecondBytePinLaw" (some 0) with
  accessFlags := 49
  interfaces := #[]
  cf := some (fileOf pool1 16 #[] #[{ accessFlags := 2, nameIndex := 5, descriptorIndex := 6, attributes := #[] }, { accessFlags := 9, nameIndex := 20, descriptorIndex := 21, attributes := #[] }] 49 2 #[] #[])
  fields := #[]
  methods := #[k1m0, k1m1]
  instanceTypes := #[]
  staticTypes := #[]
  resolved := Array.replicate 25 none
  statics := none }

def pool2 : Array CpInfo := pool [(1, .class_ 2), (0, u "com/example/dragnet/dragnet/Utf8"), (1, .class_ 6), (1, u "java/lang/Object"), (0, u "<init>"), (0, u "()V"), (13, u "(I)I"), (34, .integer 65536), (0, u "MAX_BYTES"), (0, u "I"), (2, u "MALFORMED"), (1, u "LENGTH_SHIFT"), (1, u "CODE_POINT_BITS"), (14, u "secondByte")] 2

def k2m0 : Method := { name := "<init>", desc := "()V", sig := { parameters := [], returnType := none }, accessFlags := 2, code := none }
def k2c1 : Code := { maxStack := 3, maxLocals := 2, code := prog_15_method_10_code, exceptionTable := #[], attributes := #[] }
def k2m1 : Method := { name := "secondByte", desc := "(I)I", sig := { parameters := [.int], returnType := some .int }, accessFlags := 8, code := some k2c1 }
/-- com/example/dragnet/dragnet/Utf8 -/
def k2 : Class := { plain "com/example/dragnet/dragnet/Utf8" (some 0) with
  accessFlags := 48
  interfaces := #[]
  cf := some (fileOf pool2 1 #[] #[{ accessFlags := 2, nameIndex := 7, descriptorIndex := 8, attributes := #[] }, { accessFlags := 8, nameIndex := 81, descriptorIndex := 22, attributes := #[] }] 48 4 #[] #[{ accessFlags := 24, nameIndex := 58, descriptorIndex := 59, attributes := #[] }, { accessFlags := 24, nameIndex := 62, descriptorIndex := 59, attributes := #[] }, { accessFlags := 26, nameIndex := 64, descriptorIndex := 59, attributes := #[] }, { accessFlags := 26, nameIndex := 66, descriptorIndex := 59, attributes := #[] }])
  fields := #[{ name := "MAX_BYTES", type := .int, accessFlags := 24, slot := 0, constantValue := 0 }, { name := "MALFORMED", type := .int, accessFlags := 24, slot := 1, constantValue := 0 }, { name := "LENGTH_SHIFT", type := .int, accessFlags := 26, slot := 2, constantValue := 0 }, { name := "CODE_POINT_BITS", type := .int, accessFlags := 26, slot := 3, constantValue := 0 }]
  methods := #[k2m0, k2m1]
  instanceTypes := #[]
  staticTypes := #[.int, .int, .int, .int]
  resolved := Array.replicate 84 none
  statics := none }

def pool3 : Array CpInfo := pool [(1, u "java/lang/Cloneable"), (0, .class_ 1), (0, u "java/lang/Object"), (0, .class_ 3)] 3

/-- java/lang/Cloneable -/
def k3 : Class := { plain "java/lang/Cloneable" (some 0) with
  accessFlags := 1537
  interfaces := #[]
  cf := some (fileOf pool3 2 #[] #[] 1537 4 #[] #[])
  fields := #[]
  methods := #[]
  instanceTypes := #[]
  staticTypes := #[]
  resolved := Array.replicate 8 none
  statics := none }

def pool4 : Array CpInfo := pool [(1, u "java/io/Serializable"), (0, .class_ 1), (0, u "java/lang/Object"), (0, .class_ 3)] 3

/-- java/io/Serializable -/
def k4 : Class := { plain "java/io/Serializable" (some 0) with
  accessFlags := 1537
  interfaces := #[]
  cf := some (fileOf pool4 2 #[] #[] 1537 4 #[] #[])
  fields := #[]
  methods := #[]
  instanceTypes := #[]
  staticTypes := #[]
  resolved := Array.replicate 8 none
  statics := none }

/-- the primitive byte -/
def k5 : Class := { plain "byte" none with kind := .primitive 'B', accessFlags := 0x411 }
/-- [B -/
def k6 : Class := { plain "[B" (some 0) with kind := .array 5 .byte, interfaces := #[3, 4], accessFlags := 1041 }

/-- the primitive int -/
def k7 : Class := { plain "int" none with kind := .primitive 'I', accessFlags := 0x411 }
/-- [I -/
def k8 : Class := { plain "[I" (some 0) with kind := .array 7 .int, interfaces := #[3, 4], accessFlags := 1041 }

def heap : Heap := #[]
def classes : Array Class := #[k0, k1, k2, k3, k4, k5, k6, k7, k8]
def interned : List (Array UInt16 × Addr) := []
def slotsUsed : Nat := 0
def theMethod : MethodId := ⟨1, 1⟩
def args0 : Array Value := #[.int 5]
def aboutOver (below : List Frame) : State where
  vm := { classes := classes, interned := interned.toArray }
  heap := heap
  slotsUsed := slotsUsed
  threads := #[{ frames := .invoking theMethod args0 :: below }]
def below0 : List Frame := [.native { method := ⟨0, 0⟩, args := #[] }]
def about1 : State := aboutOver below0
def p0 : Program := .bare "" "" ""
def e0 : Env := launch0.env 0 0 0
theorem w_frames : about1.frames = Frame.invoking theMethod args0 :: below0 := rfl
set_option maxRecDepth 65536 in
theorem w_args : argsFit about1.vm theMethod args0 = true := by decide +kernel
set_option maxRecDepth 65536 in
theorem w_heap : heapFits about1 = true := by decide +kernel
set_option maxRecDepth 65536 in
theorem w_runnable : about1.curStatus? = some .runnable := by decide +kernel
set_option maxRecDepth 65536 in
theorem w_alone : about1.alone = true := by decide +kernel
set_option maxRecDepth 65536 in
theorem w_named : about1.methodNamed? x = some theMethod := by decide +kernel
set_option maxRecDepth 65536 in
theorem w_hears : about1.hears theMethod below0 = true := by decide +kernel
set_option maxRecDepth 65536 in
theorem w_ripe : about1.ripe theMethod args0 below0 = true := by decide +kernel
theorem w_running : about1.status = .running := rfl
set_option maxRecDepth 65536 in
theorem w_room : about1.hasRoom e0.platform room_1 = true :=
  launch0.hasRoom_least _ room_1 (by decide +kernel) (by decide +kernel) (by decide +kernel) (by decide +kernel) (by decide +kernel) (by decide +kernel)
theorem allAtoms_all (ts : List Jvm.Cond) (a : Array Jvm.Value) (st : Jvm.State) : (allAtoms ts).before a st = ts.all (fun c => c.before a st) := by
  induction ts with
  | nil => rfl
  | cons c t ih =>
    show (Jvm.Cond.and c (allAtoms t)).before a st = _
    rw [Jvm.Cond.before_and, ih, List.all_cons]
def words1 : List Jvm.Cond := Jvm.Cond.code x code maxLocals ret :: tables_1
/-- a 'code' word, met by the world's own term for the bytes: nothing is compared byte by byte -/
theorem code_word {y : MethodName} {bytes : ByteArray} {mx : Nat} {rt : Option FieldType} {a : Array Value} {s : State} {m : MethodId} {meth : Method} {c : Code} (h1 : s.methodNamed? y = some m) (h2 : s.vm.method? m = some meth) (h3 : meth.code = some c) (h4 : c.code = bytes)
    (h5 : (c.maxLocals == mx && c.exceptionTable.isEmpty && decide (c.maxStack ≤ mostOperands) && decide (meth.sig.returnType = rt) && !meth.locks && decide (parseMethodDescriptor y.desc = some meth.sig)) = true) : (Jvm.Cond.code y bytes mx rt).before a s = true := by
  simp only [Bool.and_eq_true, beq_iff_eq, Bool.not_eq_true', decide_eq_true_eq] at h5
  obtain ⟨⟨⟨⟨⟨g1, g2⟩, g3⟩, g4⟩, g5⟩, g6⟩ := h5
  simp [Cond.before, Cond.holds, Cond.value, h1, h2, h3, h4, g1, g2, g3, g4, g5, g6]
def isCode : Jvm.Cond → Bool
  | .code _ _ _ _ => true
  | _ => false
theorem all_split {L : List Jvm.Cond} {P : Jvm.Cond → Bool} (h1 : L.all (fun c => isCode c || P c) = true) (h2 : ∀ c ∈ L.filter isCode, P c = true) : L.all P = true := by
  refine List.all_eq_true.mpr fun c hc => ?_
  have h := List.all_eq_true.mp h1 c hc
  rcases Bool.eq_false_or_eq_true (isCode c) with hi | hi
  · exact h2 c (List.mem_filter.mpr ⟨hc, hi⟩)
  · simpa [hi] using h
set_option maxRecDepth 65536 in
theorem w_c0 : (Jvm.Cond.code x code maxLocals ret).before args0 about1 = true := code_word (m := ⟨1, 1⟩) (meth := k1m1) (c := k1c1) (by decide +kernel) rfl rfl rfl (by decide +kernel)
set_option maxRecDepth 65536 in
theorem w_c1 : (Jvm.Cond.code ({ cls := "com/example/dragnet/dragnet/Utf8", name := "secondByte", desc := "(I)I" } : Jvm.MethodName) prog_15_method_10_code (2 : Nat) (Option.some Jvm.ClassFile.FieldType.int)).before args0 about1 = true := code_word (m := ⟨2, 1⟩) (meth := k2m1) (c := k2c1) (by decide +kernel) rfl rfl rfl (by decide +kernel)
def codes1 : List Jvm.Cond := [Jvm.Cond.code x code maxLocals ret, Jvm.Cond.code ({ cls := "com/example/dragnet/dragnet/Utf8", name := "secondByte", desc := "(I)I" } : Jvm.MethodName) prog_15_method_10_code (2 : Nat) (Option.some Jvm.ClassFile.FieldType.int)]
set_option maxRecDepth 65536 in
theorem codes_eq : words1.filter isCode = codes1 := rfl
theorem w_codes : ∀ c ∈ words1.filter isCode, c.before args0 about1 = true := by
  rw [codes_eq]
  intro c hc
  simp only [codes1, List.mem_cons, List.not_mem_nil, or_false] at hc
  rcases hc with rfl | rfl
  · exact w_c0
  · exact w_c1
set_option maxRecDepth 65536 in
theorem w_t1 : words1.all (fun c => isCode c || c.before args0 about1) = true := by decide +kernel
theorem w_tables : (allAtoms (Jvm.Cond.code x code maxLocals ret :: tables_1)).before args0 about1 = true := by
  rw [allAtoms_all]
  show words1.all (fun c => c.before args0 about1) = true
  refine all_split ?_ w_codes
  rw [w_t1]
set_option maxRecDepth 65536 in
theorem w_case : (Jvm.Cond.and given_1 narrow_1).before args0 about1 = true := by decide +kernel
theorem w_applies : (headSpec (Jvm.Cond.code x code maxLocals ret :: tables_1) room_1).applies x e0.platform about1 = true :=
  (Spec.applies_iff w_frames).mpr ⟨w_running, w_runnable, w_alone, w_named, w_hears, w_ripe, w_room, w_tables⟩
theorem atStart : AtStart classFile x code maxLocals ret World_1 tables_1 room_1 Calls_1 rest_1 Pre_1 launch0 p0 e0 about1 theMethod args0 below0 :=
  ⟨lists_1, trivial, launch0.admits_env _ _ _, launch0.least_env, fairChoices_fair.cas, fairChoices_fair.clock, w_frames, w_args, w_heap, w_applies, trivial, trivial, w_case⟩
end start1
theorem witness_1 : WitnessClaimed_1 := ⟨start1.p0, start1.e0, start1.about1, start1.theMethod, start1.args0, start1.below0, start1.atStart⟩
end Jvm.Pilot.@@N@@
