import JvmDerived
import JvmDerived.Pilot.@@N@@Statement
import JvmDerived.Pilot.@@N@@Code
set_option linter.unusedVariables false
set_option linter.unusedSimpArgs false
namespace Jvm.RoadKit
open Sem ClassFile Op Lib Jvm.Stand Jvm.Free Jvm.LawKit
section New
variable {p : Program} {l : Launch} {e : Env} {R : Room} {s : State} {m : MethodId} {args : Array Value} {below : List Frame} {meth : Method} {c : Code} {T : State} {locs : List Loc} {cells slots : Nat}
theorem retI (X : Stand p l e R s m args below meth c T locs cells slots) (hx : p.tables.exec = Jvm.exec) {pc : Nat} {Ls : Array Slot} {z : Int32} {rest : List Value} (hret : meth.sig.returnType = some .int) (hd : decode c.code pc = .ok (.ireturn, 1)) {fs : List Frame}
    (hl : ∀ (f : JFrame) (acts : List Action), f.method = m → f.locked = none → f.entered = [] → (doReturn e (T.setTop f) acts (some (.int z))).1 = T.setFrames fs) : Steps p.tables e below (T.setTop (mkF m pc Ls (.int z :: rest))) (T.setFrames fs) := by
  have hm' : T.vm.method? m = some meth := X.method'
  have hn : narrow .int (.int z) = .int z := rfl
  show Steps p.tables e below (T.setTop { method := m, pc := pc, locals := Ls, stack := _ :: rest, locked := none }) _
  jvm_step X.here [X.here.top, hx, hd, hm', hret, hn]
  first | (intro acts; rw [hl _ acts rfl rfl rfl]) | rw [hl _ _ rfl rfl rfl]
  exact Steps.refl _
end New
end Jvm.RoadKit
namespace Jvm.Wp
open Sem ClassFile Op Lib Jvm.Free Jvm.Stand Jvm.LawKit Jvm.RoadKit

/-- a cell of the walk's own small heap: an array (its kind, its values) or an object (its class, its fields: name, descriptor, value) -/
abbrev MC : Type := Sum (FieldType × List Value) (String × List (String × String × Value))
abbrev MH : Type := List (Addr × MC)
def COk (Z : State) (a0 : Array Value) (h : Heap) (a : Addr) : MC → Prop
  | .inl (ty, vs) => ∃ c : Cell, Arr Z h a c ty ∧ c.slots = vs.toArray ∧ vs.length < 2 ^ 31
  | .inr (C, fs) => Exa Z h a C ∧ (fs.map (·.1)).Nodup ∧ ∀ x ∈ fs, Fld Z h a C x.1 x.2.1 x.2.2 ∧ Laid Z a0 C C x.1 x.2.1 ∧ ∃ t, parseFieldDescriptor x.2.1 = some t
def Rel (Z : State) (a0 : Array Value) (n0 : Nat) (H : MH) (h : Heap) : Prop := n0 ≤ h.size ∧ (H.map (·.1)).Nodup ∧ ∀ x ∈ H, n0 ≤ x.1 ∧ COk Z a0 h x.1 x.2

theorem idx_eq {j : Int32} {i : Nat} (hj : j.toInt = (i : Int)) : j.toNatClampNeg = i := by
  show j.toInt.toNat = i
  rw [hj]; simp
theorem idx_ok {j : Int32} {i n : Nat} (hj : j.toInt = (i : Int)) (hi : i < n) : ¬ (j < 0 ∨ n ≤ j.toNatClampNeg) := by
  rw [idx_eq hj, Int32.lt_iff_toInt_lt, hj]
  simp; omega
theorem COk.lt {Z : State} {a0 : Array Value} {h : Heap} {a : Addr} {c : MC} (k : COk Z a0 h a c) : a < h.size := by
  cases c with
  | inl q => obtain ⟨ty, vs⟩ := q; obtain ⟨c, A, -⟩ := k; exact A.lt
  | inr q => obtain ⟨C, fs⟩ := q; exact k.1.lt
theorem COk.ext {Z : State} {a0 : Array Value} {h h' : Heap} {a : Addr} {c : MC} (E : Ext h h') (k : COk Z a0 h a c) : COk Z a0 h' a c := by
  cases c with
  | inl q => obtain ⟨ty, vs⟩ := q; obtain ⟨c, A, r⟩ := k; exact ⟨c, A.ext E, r⟩
  | inr q => obtain ⟨C, fs⟩ := q; exact ⟨k.1.ext E, k.2.1, fun x hx => ⟨(k.2.2 x hx).1.ext E, (k.2.2 x hx).2⟩⟩
theorem COk.other {Z : State} {a0 : Array Value} {h h' : Heap} {a b : Addr} {sl : Nat} {v : Value} {c : MC} (W : Wr h h' b sl v) (hne : a ≠ b) (k : COk Z a0 h a c) : COk Z a0 h' a c := by
  cases c with
  | inl q => obtain ⟨ty, vs⟩ := q; obtain ⟨c, A, r⟩ := k; exact ⟨c, A.other W hne, r⟩
  | inr q => obtain ⟨C, fs⟩ := q; exact ⟨k.1.wr W, k.2.1, fun x hx => ⟨(k.2.2 x hx).1.other W (Or.inl hne), (k.2.2 x hx).2⟩⟩
theorem COk.setArr {Z : State} {a0 : Array Value} {h h' : Heap} {a : Addr} {ty : FieldType} {vs : List Value} {i : Nat} {v : Value} (W : Wr h h' a i v) (k : COk Z a0 h a (.inl (ty, vs))) : COk Z a0 h' a (.inl (ty, vs.set i v)) := by
  obtain ⟨c, A, e, r⟩ := k
  refine ⟨_, A.same W, ?_, by simpa using r⟩
  show c.slots.setIfInBounds i v = _
  rw [e]; simp
theorem COk.setFld {Z : State} {a0 : Array Value} {h h' : Heap} {a : Addr} {C n d : String} {pre post : List (String × String × Value)} {v w : Value} (W : Wr h h' a (Jvm.RoadKit.slotOf Z C n d) v) (k : COk Z a0 h a (.inr (C, pre ++ (n, d, w) :: post))) : COk Z a0 h' a (.inr (C, pre ++ (n, d, v) :: post)) := by
  obtain ⟨E, N, F⟩ := k
  have hme := F (n, d, w) (by simp)
  refine ⟨E.wr W, by simpa using N, fun x hx => ?_⟩
  have hsplit : x = (n, d, v) ∨ (x ∈ pre ++ (n, d, w) :: post ∧ x.1 ≠ n) := by
    simp only [List.map_append, List.map_cons] at N
    rw [List.nodup_append] at N
    obtain ⟨-, N2, N3⟩ := N
    rw [List.nodup_cons] at N2
    rcases List.mem_append.mp hx with h1 | h1
    · refine Or.inr ⟨List.mem_append.mpr (Or.inl h1), ?_⟩
      exact N3 x.1 (List.mem_map_of_mem h1) n (by simp)
    · rcases List.mem_cons.mp h1 with h2 | h2
      · exact Or.inl h2
      · refine Or.inr ⟨List.mem_append.mpr (Or.inr (List.mem_cons_of_mem _ h2)), fun q => N2.1 ?_⟩
        rw [← q]; exact List.mem_map_of_mem h2
  rcases hsplit with rfl | ⟨hm, hne⟩
  · exact ⟨hme.1.same W, hme.2⟩
  · have G := F x hm
    obtain ⟨t, ht⟩ := G.2.2
    obtain ⟨t', ht'⟩ := hme.2.2
    exact ⟨G.1.other W (Or.inr (slot_ne G.2.1 hme.2.1 hne ht ht')), G.2⟩
theorem Rel.ext {Z : State} {a0 : Array Value} {n0 : Nat} {H : MH} {h h' : Heap} (E : Ext h h') (r : Rel Z a0 n0 H h) : Rel Z a0 n0 H h' := ⟨Nat.le_trans r.1 E.1, r.2.1, fun x hx => ⟨(r.2.2 x hx).1, (r.2.2 x hx).2.ext E⟩⟩
theorem Rel.push {Z : State} {a0 : Array Value} {n0 : Nat} {H : MH} {h h' : Heap} {c : MC} (E : Ext h h') (r : Rel Z a0 n0 H h) (k : COk Z a0 h' h.size c) : Rel Z a0 n0 ((h.size, c) :: H) h' := by
  refine ⟨Nat.le_trans r.1 E.1, ?_, fun x hx => ?_⟩
  · rw [List.map_cons, List.nodup_cons]
    refine ⟨fun q => ?_, r.2.1⟩
    obtain ⟨x, hx, e⟩ := List.mem_map.mp q
    have h1 := (r.2.2 x hx).2.lt
    rw [e] at h1
    exact Nat.lt_irrefl _ h1
  · rcases List.mem_cons.mp hx with rfl | q
    · exact ⟨r.1, k⟩
    · exact ⟨(r.2.2 x q).1, (r.2.2 x q).2.ext E⟩
theorem Rel.set {Z : State} {a0 : Array Value} {n0 : Nat} {pre post : MH} {h h' : Heap} {a : Addr} {c c' : MC} {sl : Nat} {v : Value} (W : Wr h h' a sl v) (r : Rel Z a0 n0 (pre ++ (a, c) :: post) h) (k : COk Z a0 h a c → COk Z a0 h' a c') : Rel Z a0 n0 (pre ++ (a, c') :: post) h' := by
  obtain ⟨r1, N, F⟩ := r
  refine ⟨by rw [W.size]; exact r1, by simpa using N, fun x hx => ?_⟩
  have hme := F (a, c) (by simp)
  have hsplit : x = (a, c') ∨ (x ∈ pre ++ (a, c) :: post ∧ x.1 ≠ a) := by
    simp only [List.map_append, List.map_cons] at N
    rw [List.nodup_append] at N
    obtain ⟨-, N2, N3⟩ := N
    rw [List.nodup_cons] at N2
    rcases List.mem_append.mp hx with h1 | h1
    · refine Or.inr ⟨List.mem_append.mpr (Or.inl h1), ?_⟩
      exact N3 x.1 (List.mem_map_of_mem h1) a (by simp)
    · rcases List.mem_cons.mp h1 with h2 | h2
      · exact Or.inl h2
      · refine Or.inr ⟨List.mem_append.mpr (Or.inr (List.mem_cons_of_mem _ h2)), fun q => N2.1 ?_⟩
        rw [← q]; exact List.mem_map_of_mem h2
  rcases hsplit with rfl | ⟨hm, hne⟩
  · exact ⟨hme.1, k hme.2⟩
  · exact ⟨(F x hm).1, (F x hm).2.other W hne⟩
theorem Rel.at {Z : State} {a0 : Array Value} {n0 : Nat} {H : MH} {h : Heap} {k : Nat} {a : Addr} {c : MC} (r : Rel Z a0 n0 H h) (hk : H[k]? = some (a, c)) : n0 ≤ a ∧ COk Z a0 h a c := r.2.2 (a, c) (List.mem_of_getElem? hk)

/-- from pc on, with these locals, this stack, this small heap: the method returns, and Q holds of what it returns and of the small heap at the end -/
def WP (l : Launch) (Z : State) (a0 : Array Value) (n0 : Nat) (R : Room) (y : MethodName) (code : ByteArray) (mx : Nat) (ret : Option FieldType) (cells slots pc : Nat) (Ls : List Slot) (st : List Value) (H : MH) (Q : Option Value → MH → Prop) : Prop :=
  ∀ (p : Program) (e : Env) (s : State) (m : MethodId) (args : Array Value) (below : List Frame) (meth : Method) (c : Code) (T : State) (locs : List Loc),
    Stand p l e R s m args below meth c T locs cells slots → p.tables.exec = Jvm.exec → Z.Warmed39 s.vm → c.code = code → c.maxLocals = mx → s.vm.findClass y.cls = some m.cls → meth.name = y.name → meth.sig.returnType = ret → meth.locks = false →
    Fr n0 locs → Rel Z a0 n0 H T.heap → cells ≤ R.cells → slots ≤ R.slots →
    ∃ v H' L s₂, Steps p.tables e below (T.setTop (mkF m pc ⟨Ls⟩ st)) s₂ ∧ s₂.status = .running ∧ Ended s₂ below (.returned v) ∧ Fr n0 L ∧ Rel Z a0 n0 H' s₂.heap ∧ Q v H' ∧ s.WarmedH s₂.vm ∧ s.sameButNew ({ s₂ with vm := s.vm } : State) L R.cells R.slots
/-- a method's contract: called with these arguments over this small heap it returns, and Q holds -/
def Con (l : Launch) (Z : State) (a0 : Array Value) (n0 : Nat) (y : MethodName) (code : ByteArray) (mx : Nat) (ret : Option FieldType) (rm : Room) (as : Array Value) (H : MH) (Q : Option Value → MH → Prop) : Prop :=
  ∀ (ws : List Cond) (h0 : Heap), Rel Z a0 n0 H h0 → MetFree l y (head1 (Cond.code y code mx ret :: ws) rm) (fun a U => a = as ∧ Z.Warmed39 U.vm ∧ U.heap = h0) (fun _ _ _ _ _ => True)
    (fun _ U o U' => ∃ v L, o = .returned v ∧ (Fr n0 L ∧ ∃ H', Rel Z a0 n0 H' U'.heap ∧ Q v H') ∧ FrameEnd U o U' L rm.cells rm.slots)

variable {l : Launch} {Z : State} {a0 : Array Value} {n0 : Nat} {R : Room} {y : MethodName} {code : ByteArray} {mx : Nat} {ret : Option FieldType} {cells slots pc : Nat} {Ls : List Slot} {st : List Value} {H : MH} {Q : Option Value → MH → Prop}

def locsOf : List Value → List Slot
  | [] => []
  | v :: t => if v.category = 2 then .val v :: .second :: locsOf t else .val v :: locsOf t
theorem foldl_locs (l : List Value) : ∀ acc : Array Slot, l.foldl (fun acc v => if v.category = 2 then (acc.push (.val v)).push .second else acc.push (.val v)) acc = acc ++ (locsOf l).toArray := by
  induction l with
  | nil => intro acc; simp [locsOf]
  | cons v t ih =>
    intro acc
    rw [List.foldl_cons, ih, locsOf]
    split <;> simp
theorem efG (m : MethodId) (l : List Value) (mx : Nat) : entryFrame m l.toArray mx = mkF m 0 ⟨locsOf l ++ List.replicate (mx - (locsOf l).length) .unset⟩ [] := by
  have h : argsToLocals l.toArray mx = ⟨locsOf l ++ List.replicate (mx - (locsOf l).length) .unset⟩ := by
    unfold argsToLocals
    rw [show l.toArray.foldl (init := #[]) (fun acc v => if v.category = 2 then (acc.push (.val v)).push .second else acc.push (.val v)) = (locsOf l).toArray by rw [List.foldl_toArray, foldl_locs]; simp]
    apply Array.ext'
    simp
  simp only [entryFrame, mkF, h]
theorem Con.intro {rm : Room} {as : Array Value} (hpn : plainFor y = true) (hE : ∀ m, entryFrame m as mx = mkF m 0 ⟨Ls⟩ []) (h : WP l Z a0 n0 rm y code mx ret 0 0 0 Ls [] H Q) : Con l Z a0 n0 y code mx ret rm as H Q := by
  intro ws h0 hR
  refine MetFree.of_bodySF hpn hisR ?_
  intro p e s m args below meth c s₁ Bd hml0 hP hK
  obtain ⟨rfl, hZ, hh⟩ := hP
  have e0 : s₁.heap = h0 := by rw [← hh, Bd.state]; rfl
  obtain ⟨v, H', L, s2, k1, k2, k3, k4, k5, k6, k7, k8⟩ := h p e s m _ below meth c s₁ [] (Stand.of_body Bd) Bd.exec hZ Bd.bytes hml0 (findClass_of_methodNamed Bd.named) (name_of_methodNamed Bd.named Bd.method).1 Bd.returns Bd.notSynchronized (Fr.nil n0) (by rw [e0]; exact hR) (Nat.zero_le _) (Nat.zero_le _)
  exact ⟨s2, _, castTop (hE m) k1, k2, k3, v, L, rfl, ⟨k4, H', k5, k6⟩, ⟨_, rfl⟩, k7, k8⟩
theorem Con.mono {rm : Room} {as : Array Value} {Q' : Option Value → MH → Prop} (h : Con l Z a0 n0 y code mx ret rm as H Q) (k : ∀ v H', Q v H' → Q' v H') : Con l Z a0 n0 y code mx ret rm as H Q' := by
  intro ws h0 hR p e ha hc hk s m args below hf happ hP hK
  obtain ⟨n, o, q1, q2, q3, v, L, q4, ⟨q5, H', q6, q7⟩, q8⟩ := h ws h0 hR p e ha hc hk s m args below hf happ hP hK
  exact ⟨n, o, q1, q2, q3, v, L, q4, ⟨q5, H', q6, k _ _ q7⟩, q8⟩
theorem WP.mono {Q' : Option Value → MH → Prop} (h : WP l Z a0 n0 R y code mx ret cells slots pc Ls st H Q) (k : ∀ v H', Q v H' → Q' v H') : WP l Z a0 n0 R y code mx ret cells slots pc Ls st H Q' := by
  intro p e s m args below meth c T locs X hx hZ hc hm ho hn hr hl hF hR g1 g2
  obtain ⟨v, H', L, s2, k1, k2, k3, k4, k5, k6, k7⟩ := h p e s m args below meth c T locs X hx hZ hc hm ho hn hr hl hF hR g1 g2
  exact ⟨v, H', L, s2, k1, k2, k3, k4, k5, k _ _ k6, k7⟩

/-- a step that moves the frame alone -/
theorem pure {pc' : Nat} {Ls' : List Slot} {st' : List Value}
    (h : ∀ (p : Program) (e : Env) (m : MethodId) (below : List Frame) (c : Code) (T target : State), At T m c below → p.tables.exec = Jvm.exec → c.code = code → Steps p.tables e below (T.setTop (mkF m pc' ⟨Ls'⟩ st')) target → Steps p.tables e below (T.setTop (mkF m pc ⟨Ls⟩ st)) target)
    (k : WP l Z a0 n0 R y code mx ret cells slots pc' Ls' st' H Q) : WP l Z a0 n0 R y code mx ret cells slots pc Ls st H Q := by
  intro p e s m args below meth c T locs X hx hZ hc hm ho hn hr hl hF hR g1 g2
  obtain ⟨v, H', L, s2, k1, k2⟩ := k p e s m args below meth c T locs X hx hZ hc hm ho hn hr hl hF hR g1 g2
  exact ⟨v, H', L, s2, h p e m below c T s2 X.here hx hc k1, k2⟩
/-- a step that hands back a new state over the same heap -/
theorem stepT {pc' : Nat} {Ls' : List Slot} {st' : List Value}
    (h : ∀ (p : Program) (e : Env) (s : State) (m : MethodId) (args : Array Value) (below : List Frame) (meth : Method) (c : Code) (T : State) (locs : List Loc), Stand p l e R s m args below meth c T locs cells slots → p.tables.exec = Jvm.exec → Z.Warmed39 s.vm → c.code = code → c.maxLocals = mx → s.vm.findClass y.cls = some m.cls → Rel Z a0 n0 H T.heap →
      ∃ T', Stand p l e R s m args below meth c T' locs cells slots ∧ T'.heap = T.heap ∧ ∀ target, Steps p.tables e below (T'.setTop (mkF m pc' ⟨Ls'⟩ st')) target → Steps p.tables e below (T.setTop (mkF m pc ⟨Ls⟩ st)) target)
    (k : WP l Z a0 n0 R y code mx ret cells slots pc' Ls' st' H Q) : WP l Z a0 n0 R y code mx ret cells slots pc Ls st H Q := by
  intro p e s m args below meth c T locs X hx hZ hc hm ho hn hr hl hF hR g1 g2
  obtain ⟨T', X', e', st⟩ := h p e s m args below meth c T locs X hx hZ hc hm ho hR
  obtain ⟨v, H', L, s2, k1, k2⟩ := k p e s m args below meth c T' locs X' hx hZ hc hm ho hn hr hl hF (by rw [e']; exact hR) g1 g2
  exact ⟨v, H', L, s2, st _ k1, k2⟩
/-- a step that writes one place of the cell (a, cl) -/
theorem stepW {pc' : Nat} {Ls' : List Slot} {st' : List Value} {pre post : MH} {a : Addr} {cl cl' : MC}
    (h : ∀ (p : Program) (e : Env) (s : State) (m : MethodId) (args : Array Value) (below : List Frame) (meth : Method) (c : Code) (T : State) (locs : List Loc), Stand p l e R s m args below meth c T locs cells slots → p.tables.exec = Jvm.exec → Z.Warmed39 s.vm → c.code = code → c.maxLocals = mx → s.vm.findClass y.cls = some m.cls → meth.name = y.name → COk Z a0 T.heap a cl →
      ∃ T' h' sl v, Stand p l e R s m args below meth c T' (locs ++ [⟨a, sl⟩]) cells slots ∧ T'.heap = h' ∧ Wr T.heap h' a sl v ∧ (COk Z a0 T.heap a cl → COk Z a0 h' a cl') ∧ ∀ target, Steps p.tables e below (T'.setTop (mkF m pc' ⟨Ls'⟩ st')) target → Steps p.tables e below (T.setTop (mkF m pc ⟨Ls⟩ st)) target)
    (k : WP l Z a0 n0 R y code mx ret cells slots pc' Ls' st' (pre ++ (a, cl') :: post) Q) : WP l Z a0 n0 R y code mx ret cells slots pc Ls st (pre ++ (a, cl) :: post) Q := by
  intro p e s m args below meth c T locs X hx hZ hc hm ho hn hr hl hF hR g1 g2
  have hA := hR.at (k := pre.length) (a := a) (c := cl) (by simp)
  obtain ⟨T', h', sl, v, X', e', W, hco, st⟩ := h p e s m args below meth c T locs X hx hZ hc hm ho hn hA.2
  obtain ⟨v, H', L, s2, k1, k2⟩ := k p e s m args below meth c T' _ X' hx hZ hc hm ho hn hr hl (Fr.snoc X' hF hA.1) (by rw [e']; exact hR.set W hco) g1 g2
  exact ⟨v, H', L, s2, st _ k1, k2⟩

theorem iloadN {k : Fin 4} {v : Int32} {pc' : Nat} (hd : decode code pc = .ok (.iload_n k, 1)) (hl : Ls[k.val]? = some (.val (.int v))) (hp : pc + 1 = pc') (w : WP l Z a0 n0 R y code mx ret cells slots pc' Ls (.int v :: st) H Q) : WP l Z a0 n0 R y code mx ret cells slots pc Ls st H Q := by
  subst hp
  exact pure (fun p e m below c T t h hx hc hs => XS.iloadN h hx rfl (hb hc hd) (by simpa using hl) hs) w
theorem iload {k : Nat} {v : Int32} {pc' : Nat} (hd : decode code pc = .ok (.iload k, 2)) (hl : Ls[k]? = some (.val (.int v))) (hp : pc + 2 = pc') (w : WP l Z a0 n0 R y code mx ret cells slots pc' Ls (.int v :: st) H Q) : WP l Z a0 n0 R y code mx ret cells slots pc Ls st H Q := by
  subst hp
  exact pure (fun p e m below c T t h hx hc hs => XS.iload h hx rfl (hb hc hd) (by simpa using hl) hs) w
theorem aloadN {k : Fin 4} {v : Value} {pc' : Nat} (hd : decode code pc = .ok (.aload_n k, 1)) (hl : Ls[k.val]? = some (.val v)) (hv : v.isRef = true) (hp : pc + 1 = pc') (w : WP l Z a0 n0 R y code mx ret cells slots pc' Ls (v :: st) H Q) : WP l Z a0 n0 R y code mx ret cells slots pc Ls st H Q := by
  subst hp
  exact pure (fun p e m below c T t h hx hc hs => XS.aloadN h hx rfl (hb hc hd) (by simpa using hl) hv hs) w
theorem aload {k : Nat} {v : Value} {pc' : Nat} (hd : decode code pc = .ok (.aload k, 2)) (hl : Ls[k]? = some (.val v)) (hv : v.isRef = true) (hp : pc + 2 = pc') (w : WP l Z a0 n0 R y code mx ret cells slots pc' Ls (v :: st) H Q) : WP l Z a0 n0 R y code mx ret cells slots pc Ls st H Q := by
  subst hp
  exact pure (fun p e m below c T t h hx hc hs => XS.aload h hx rfl (hb hc hd) (by simpa using hl) hv hs) w
theorem iconst {i : Int} (n : Int32) {pc' : Nat} (hd : decode code pc = .ok (.iconst i, 1)) (hn : Int32.ofInt i = n) (hp : pc + 1 = pc') (w : WP l Z a0 n0 R y code mx ret cells slots pc' Ls (.int n :: st) H Q) : WP l Z a0 n0 R y code mx ret cells slots pc Ls st H Q := by
  subst hp hn
  exact pure (fun p e m below c T t h hx hc hs => XS.iconst h hx rfl (hb hc hd) hs) w
theorem bipush {i : Int} (n : Int32) {pc' : Nat} (hd : decode code pc = .ok (.bipush i, 2)) (hn : (Int8.ofInt i).toInt32 = n) (hp : pc + 2 = pc') (w : WP l Z a0 n0 R y code mx ret cells slots pc' Ls (.int n :: st) H Q) : WP l Z a0 n0 R y code mx ret cells slots pc Ls st H Q := by
  subst hp hn
  exact pure (fun p e m below c T t h hx hc hs => XS.bipush h hx rfl (hb hc hd) hs) w
theorem aconstNull  {pc' : Nat} (hd : decode code pc = .ok (.aconst_null, 1)) (hp : pc + 1 = pc') (w : WP l Z a0 n0 R y code mx ret cells slots pc' Ls (.null :: st) H Q) : WP l Z a0 n0 R y code mx ret cells slots pc Ls st H Q := by
  subst hp
  exact pure (fun p e m below c T t h hx hc hs => XS.aconstNull h hx rfl (hb hc hd) hs) w
theorem iadd {x z : Int32} {pc' : Nat} (hd : decode code pc = .ok (.iadd, 1)) (hp : pc + 1 = pc') (w : WP l Z a0 n0 R y code mx ret cells slots pc' Ls (.int (x + z) :: st) H Q) : WP l Z a0 n0 R y code mx ret cells slots pc Ls (.int z :: .int x :: st) H Q := by
  subst hp
  exact pure (fun p e m below c T t h hx hc hs => XS.iadd h hx rfl (hb hc hd) rfl hs) w
theorem imul {x z : Int32} {pc' : Nat} (hd : decode code pc = .ok (.imul, 1)) (hp : pc + 1 = pc') (w : WP l Z a0 n0 R y code mx ret cells slots pc' Ls (.int (x * z) :: st) H Q) : WP l Z a0 n0 R y code mx ret cells slots pc Ls (.int z :: .int x :: st) H Q := by
  subst hp
  exact pure (fun p e m below c T t h hx hc hs => XS.imul h hx rfl (hb hc hd) rfl hs) w
theorem iand {x z : Int32} {pc' : Nat} (hd : decode code pc = .ok (.iand, 1)) (hp : pc + 1 = pc') (w : WP l Z a0 n0 R y code mx ret cells slots pc' Ls (.int (x &&& z) :: st) H Q) : WP l Z a0 n0 R y code mx ret cells slots pc Ls (.int z :: .int x :: st) H Q := by
  subst hp
  exact pure (fun p e m below c T t h hx hc hs => XS.iand h hx rfl (hb hc hd) rfl hs) w
theorem ixor {x z : Int32} {pc' : Nat} (hd : decode code pc = .ok (.ixor, 1)) (hp : pc + 1 = pc') (w : WP l Z a0 n0 R y code mx ret cells slots pc' Ls (.int (x ^^^ z) :: st) H Q) : WP l Z a0 n0 R y code mx ret cells slots pc Ls (.int z :: .int x :: st) H Q := by
  subst hp
  exact pure (fun p e m below c T t h hx hc hs => XS.ixor h hx rfl (hb hc hd) rfl hs) w
theorem iushr {x z : Int32} {pc' : Nat} (hd : decode code pc = .ok (.iushr, 1)) (hp : pc + 1 = pc') (w : WP l Z a0 n0 R y code mx ret cells slots pc' Ls (.int ((x.toUInt32 >>> (z &&& 31).toUInt32).toInt32) :: st) H Q) : WP l Z a0 n0 R y code mx ret cells slots pc Ls (.int z :: .int x :: st) H Q := by
  subst hp
  exact pure (fun p e m below c T t h hx hc hs => XS.iushr h hx rfl (hb hc hd) rfl hs) w
theorem dup {v : Value} {pc' : Nat} (hd : decode code pc = .ok (.dup, 1)) (hv : v.category = 1) (hp : pc + 1 = pc') (w : WP l Z a0 n0 R y code mx ret cells slots pc' Ls (v :: v :: st) H Q) : WP l Z a0 n0 R y code mx ret cells slots pc Ls (v :: st) H Q := by
  subst hp
  exact pure (fun p e m below c T t h hx hc hs => XS.dup h hx rfl (hb hc hd) rfl hv hs) w
theorem goto {o : Int} {pc' : Nat} (hd : decode code pc = .ok (.goto o, 3)) (hp : (pc : Int) + o = (pc' : Int)) (w : WP l Z a0 n0 R y code mx ret cells slots pc' Ls st H Q) : WP l Z a0 n0 R y code mx ret cells slots pc Ls st H Q :=
  pure (fun p e m below c T t h hx hc hs => XS.goto h hx rfl (pc0 := pc) (pc' := pc') rfl (hb hc hd) (by omega) (by omega) hs) w
theorem hI_lt {x z : Int32} : (if_icmp.holds .lt x z = true → x.toInt < z.toInt) ∧ (if_icmp.holds .lt x z = false → z.toInt ≤ x.toInt) := by
  constructor <;> intro hq <;> simp [if_icmp.holds, Int32.lt_iff_toInt_lt, Int32.le_iff_toInt_le] at hq ⊢ <;> first | omega | exact hq | simp_all
theorem icmp_lt {x z : Int32} {o : Int} {pt pf : Nat} (hd : decode code pc = .ok (.if_icmp .lt o, 3)) (hp : (pc : Int) + o = (pt : Int)) (hq : pc + 3 = pf) (wt : x.toInt < z.toInt → WP l Z a0 n0 R y code mx ret cells slots pt Ls st H Q) (wf : z.toInt ≤ x.toInt → WP l Z a0 n0 R y code mx ret cells slots pf Ls st H Q) : WP l Z a0 n0 R y code mx ret cells slots pc Ls (.int z :: .int x :: st) H Q := by
  subst hq
  cases hh : if_icmp.holds .lt x z
  · exact pure (fun p e m below c T t h hx hc hs => XS.icmpNo h hx rfl (hb hc hd) rfl hh hs) (wf (hI_lt.2 hh))
  · exact pure (fun p e m below c T t h hx hc hs => XS.icmpYes h hx rfl (pc0 := pc) (pc' := pt) rfl (hb hc hd) rfl hh (by omega) (by omega) hs) (wt (hI_lt.1 hh))
theorem hI_ge {x z : Int32} : (if_icmp.holds .ge x z = true → z.toInt ≤ x.toInt) ∧ (if_icmp.holds .ge x z = false → x.toInt < z.toInt) := by
  constructor <;> intro hq <;> simp [if_icmp.holds, Int32.lt_iff_toInt_lt, Int32.le_iff_toInt_le] at hq ⊢ <;> first | omega | exact hq | simp_all
theorem icmp_ge {x z : Int32} {o : Int} {pt pf : Nat} (hd : decode code pc = .ok (.if_icmp .ge o, 3)) (hp : (pc : Int) + o = (pt : Int)) (hq : pc + 3 = pf) (wt : z.toInt ≤ x.toInt → WP l Z a0 n0 R y code mx ret cells slots pt Ls st H Q) (wf : x.toInt < z.toInt → WP l Z a0 n0 R y code mx ret cells slots pf Ls st H Q) : WP l Z a0 n0 R y code mx ret cells slots pc Ls (.int z :: .int x :: st) H Q := by
  subst hq
  cases hh : if_icmp.holds .ge x z
  · exact pure (fun p e m below c T t h hx hc hs => XS.icmpNo h hx rfl (hb hc hd) rfl hh hs) (wf (hI_ge.2 hh))
  · exact pure (fun p e m below c T t h hx hc hs => XS.icmpYes h hx rfl (pc0 := pc) (pc' := pt) rfl (hb hc hd) rfl hh (by omega) (by omega) hs) (wt (hI_ge.1 hh))
theorem hI_eq {x z : Int32} : (if_icmp.holds .eq x z = true → x = z) ∧ (if_icmp.holds .eq x z = false → ¬ x = z) := by
  constructor <;> intro hq <;> simp [if_icmp.holds, Int32.lt_iff_toInt_lt, Int32.le_iff_toInt_le] at hq ⊢ <;> first | omega | exact hq | simp_all
theorem icmp_eq {x z : Int32} {o : Int} {pt pf : Nat} (hd : decode code pc = .ok (.if_icmp .eq o, 3)) (hp : (pc : Int) + o = (pt : Int)) (hq : pc + 3 = pf) (wt : x = z → WP l Z a0 n0 R y code mx ret cells slots pt Ls st H Q) (wf : ¬ x = z → WP l Z a0 n0 R y code mx ret cells slots pf Ls st H Q) : WP l Z a0 n0 R y code mx ret cells slots pc Ls (.int z :: .int x :: st) H Q := by
  subst hq
  cases hh : if_icmp.holds .eq x z
  · exact pure (fun p e m below c T t h hx hc hs => XS.icmpNo h hx rfl (hb hc hd) rfl hh hs) (wf (hI_eq.2 hh))
  · exact pure (fun p e m below c T t h hx hc hs => XS.icmpYes h hx rfl (pc0 := pc) (pc' := pt) rfl (hb hc hd) rfl hh (by omega) (by omega) hs) (wt (hI_eq.1 hh))
theorem hZ_eq {x : Int32} : (ifCond.holds .eq x = true → x = 0) ∧ (ifCond.holds .eq x = false → ¬ x = 0) := by
  rw [if0]
  exact hI_eq (z := 0)
theorem if_eq {x : Int32} {o : Int} {pt pf : Nat} (hd : decode code pc = .ok (.ifCond .eq o, 3)) (hp : (pc : Int) + o = (pt : Int)) (hq : pc + 3 = pf) (wt : x = 0 → WP l Z a0 n0 R y code mx ret cells slots pt Ls st H Q) (wf : ¬ x = 0 → WP l Z a0 n0 R y code mx ret cells slots pf Ls st H Q) : WP l Z a0 n0 R y code mx ret cells slots pc Ls (.int x :: st) H Q := by
  subst hq
  cases hh : ifCond.holds .eq x
  · exact pure (fun p e m below c T t h hx hc hs => XS.ifNo h hx rfl (hb hc hd) rfl hh hs) (wf (hZ_eq.2 hh))
  · exact pure (fun p e m below c T t h hx hc hs => XS.ifYes h hx rfl (pc0 := pc) (pc' := pt) rfl (hb hc hd) rfl hh (by omega) (by omega) hs) (wt (hZ_eq.1 hh))
theorem hI_ne {x z : Int32} : (if_icmp.holds .ne x z = true → ¬ x = z) ∧ (if_icmp.holds .ne x z = false → x = z) := by
  constructor <;> intro hq <;> simp [if_icmp.holds, Int32.lt_iff_toInt_lt, Int32.le_iff_toInt_le] at hq ⊢ <;> first | omega | exact hq | simp_all
theorem icmp_ne {x z : Int32} {o : Int} {pt pf : Nat} (hd : decode code pc = .ok (.if_icmp .ne o, 3)) (hp : (pc : Int) + o = (pt : Int)) (hq : pc + 3 = pf) (wt : ¬ x = z → WP l Z a0 n0 R y code mx ret cells slots pt Ls st H Q) (wf : x = z → WP l Z a0 n0 R y code mx ret cells slots pf Ls st H Q) : WP l Z a0 n0 R y code mx ret cells slots pc Ls (.int z :: .int x :: st) H Q := by
  subst hq
  cases hh : if_icmp.holds .ne x z
  · exact pure (fun p e m below c T t h hx hc hs => XS.icmpNo h hx rfl (hb hc hd) rfl hh hs) (wf (hI_ne.2 hh))
  · exact pure (fun p e m below c T t h hx hc hs => XS.icmpYes h hx rfl (pc0 := pc) (pc' := pt) rfl (hb hc hd) rfl hh (by omega) (by omega) hs) (wt (hI_ne.1 hh))
theorem hZ_ne {x : Int32} : (ifCond.holds .ne x = true → ¬ x = 0) ∧ (ifCond.holds .ne x = false → x = 0) := by
  rw [if0]
  exact hI_ne (z := 0)
theorem if_ne {x : Int32} {o : Int} {pt pf : Nat} (hd : decode code pc = .ok (.ifCond .ne o, 3)) (hp : (pc : Int) + o = (pt : Int)) (hq : pc + 3 = pf) (wt : ¬ x = 0 → WP l Z a0 n0 R y code mx ret cells slots pt Ls st H Q) (wf : x = 0 → WP l Z a0 n0 R y code mx ret cells slots pf Ls st H Q) : WP l Z a0 n0 R y code mx ret cells slots pc Ls (.int x :: st) H Q := by
  subst hq
  cases hh : ifCond.holds .ne x
  · exact pure (fun p e m below c T t h hx hc hs => XS.ifNo h hx rfl (hb hc hd) rfl hh hs) (wf (hZ_ne.2 hh))
  · exact pure (fun p e m below c T t h hx hc hs => XS.ifYes h hx rfl (pc0 := pc) (pc' := pt) rfl (hb hc hd) rfl hh (by omega) (by omega) hs) (wt (hZ_ne.1 hh))
def ok1 : Slot → Bool
  | .unset => true
  | .val v => v.category == 1
  | .second => false
theorem stl1 (pre : List Slot) {o : Slot} {t : List Slot} {v : Value} (ho : ok1 o = true) (hv : v.category = 1) : storeLocals ⟨pre ++ o :: t⟩ pre.length v = some ⟨pre ++ .val v :: t⟩ := by
  have hg : (⟨pre ++ o :: t⟩ : Array Slot)[pre.length]? = some o := by simp
  have hs : storeSelf (⟨pre ++ o :: t⟩ : Array Slot) pre.length v = some ⟨pre ++ .val v :: t⟩ := by
    simp [storeSelf, setAt, hv, Array.setIfInBounds]
  cases o with
  | unset => simp only [storeLocals, hg]; exact hs
  | second => cases ho
  | val w =>
    have hw : ¬ w.category = 2 := by simp only [ok1, beq_iff_eq] at ho; omega
    simp only [storeLocals, hg]
    show (if w.category = 2 then _ else _) = _
    rw [if_neg hw]; exact hs
theorem istoreN_2 {s0 s1 : Slot} {o : Slot} {t : List Slot} {x : Int32} {pc' : Nat} (hd : decode code pc = .ok (.istore_n 2, 1)) (ho : ok1 o = true) (hp : pc + 1 = pc') (w : WP l Z a0 n0 R y code mx ret cells slots pc' (s0 :: s1 :: .val (.int x) :: t) st H Q) : WP l Z a0 n0 R y code mx ret cells slots pc (s0 :: s1 :: o :: t) (.int x :: st) H Q := by
  subst hp
  exact pure (fun p e m below c T t h hx hc' hs => XS.istoreN h hx rfl (hb hc' hd) rfl (stl1 [s0, s1] ho rfl) hs) w
theorem istoreN_3 {s0 s1 s2 : Slot} {o : Slot} {t : List Slot} {x : Int32} {pc' : Nat} (hd : decode code pc = .ok (.istore_n 3, 1)) (ho : ok1 o = true) (hp : pc + 1 = pc') (w : WP l Z a0 n0 R y code mx ret cells slots pc' (s0 :: s1 :: s2 :: .val (.int x) :: t) st H Q) : WP l Z a0 n0 R y code mx ret cells slots pc (s0 :: s1 :: s2 :: o :: t) (.int x :: st) H Q := by
  subst hp
  exact pure (fun p e m below c T t h hx hc' hs => XS.istoreN h hx rfl (hb hc' hd) rfl (stl1 [s0, s1, s2] ho rfl) hs) w
theorem astoreN_3 {s0 s1 s2 : Slot} {o : Slot} {t : List Slot} {v : Value} {pc' : Nat} (hd : decode code pc = .ok (.astore_n 3, 1)) (hv : v.isRef = true) (hc : v.category = 1) (ho : ok1 o = true) (hp : pc + 1 = pc') (w : WP l Z a0 n0 R y code mx ret cells slots pc' (s0 :: s1 :: s2 :: .val (v) :: t) st H Q) : WP l Z a0 n0 R y code mx ret cells slots pc (s0 :: s1 :: s2 :: o :: t) (v :: st) H Q := by
  subst hp
  exact pure (fun p e m below c T t h hx hc' hs => XS.astoreN h hx rfl (hb hc' hd) rfl hv (stl1 [s0, s1, s2] ho hc) hs) w
theorem iinc_3 {s0 s1 s2 : Slot} {t : List Slot} {x : Int32} {i : Int} (n : Int32) {pc' : Nat} (hd : decode code pc = .ok (.iinc 3 i, 3)) (hn : Int32.ofInt i = n) (hp : pc + 3 = pc') (w : WP l Z a0 n0 R y code mx ret cells slots pc' (s0 :: s1 :: s2 :: .val (.int (x + n)) :: t) st H Q) : WP l Z a0 n0 R y code mx ret cells slots pc (s0 :: s1 :: s2 :: .val (.int x) :: t) st H Q := by
  subst hp hn
  exact pure (fun p e m below c T t h hx hc' hs => XS.iinc h hx rfl (hb hc' hd) rfl (stl1 [s0, s1, s2] rfl rfl) hs) w
theorem istore_4 {s0 s1 s2 s3 : Slot} {o : Slot} {t : List Slot} {x : Int32} {pc' : Nat} (hd : decode code pc = .ok (.istore 4, 2)) (ho : ok1 o = true) (hp : pc + 2 = pc') (w : WP l Z a0 n0 R y code mx ret cells slots pc' (s0 :: s1 :: s2 :: s3 :: .val (.int x) :: t) st H Q) : WP l Z a0 n0 R y code mx ret cells slots pc (s0 :: s1 :: s2 :: s3 :: o :: t) (.int x :: st) H Q := by
  subst hp
  exact pure (fun p e m below c T t h hx hc' hs => XS.istore h hx rfl (hb hc' hd) rfl (stl1 [s0, s1, s2, s3] ho rfl) hs) w
theorem istore_5 {s0 s1 s2 s3 s4 : Slot} {o : Slot} {t : List Slot} {x : Int32} {pc' : Nat} (hd : decode code pc = .ok (.istore 5, 2)) (ho : ok1 o = true) (hp : pc + 2 = pc') (w : WP l Z a0 n0 R y code mx ret cells slots pc' (s0 :: s1 :: s2 :: s3 :: s4 :: .val (.int x) :: t) st H Q) : WP l Z a0 n0 R y code mx ret cells slots pc (s0 :: s1 :: s2 :: s3 :: s4 :: o :: t) (.int x :: st) H Q := by
  subst hp
  exact pure (fun p e m below c T t h hx hc' hs => XS.istore h hx rfl (hb hc' hd) rfl (stl1 [s0, s1, s2, s3, s4] ho rfl) hs) w
theorem iinc_5 {s0 s1 s2 s3 s4 : Slot} {t : List Slot} {x : Int32} {i : Int} (n : Int32) {pc' : Nat} (hd : decode code pc = .ok (.iinc 5 i, 3)) (hn : Int32.ofInt i = n) (hp : pc + 3 = pc') (w : WP l Z a0 n0 R y code mx ret cells slots pc' (s0 :: s1 :: s2 :: s3 :: s4 :: .val (.int (x + n)) :: t) st H Q) : WP l Z a0 n0 R y code mx ret cells slots pc (s0 :: s1 :: s2 :: s3 :: s4 :: .val (.int x) :: t) st H Q := by
  subst hp hn
  exact pure (fun p e m below c T t h hx hc' hs => XS.iinc h hx rfl (hb hc' hd) rfl (stl1 [s0, s1, s2, s3, s4] rfl rfl) hs) w
theorem istore_6 {s0 s1 s2 s3 s4 s5 : Slot} {o : Slot} {t : List Slot} {x : Int32} {pc' : Nat} (hd : decode code pc = .ok (.istore 6, 2)) (ho : ok1 o = true) (hp : pc + 2 = pc') (w : WP l Z a0 n0 R y code mx ret cells slots pc' (s0 :: s1 :: s2 :: s3 :: s4 :: s5 :: .val (.int x) :: t) st H Q) : WP l Z a0 n0 R y code mx ret cells slots pc (s0 :: s1 :: s2 :: s3 :: s4 :: s5 :: o :: t) (.int x :: st) H Q := by
  subst hp
  exact pure (fun p e m below c T t h hx hc' hs => XS.istore h hx rfl (hb hc' hd) rfl (stl1 [s0, s1, s2, s3, s4, s5] ho rfl) hs) w
theorem istore_7 {s0 s1 s2 s3 s4 s5 s6 : Slot} {o : Slot} {t : List Slot} {x : Int32} {pc' : Nat} (hd : decode code pc = .ok (.istore 7, 2)) (ho : ok1 o = true) (hp : pc + 2 = pc') (w : WP l Z a0 n0 R y code mx ret cells slots pc' (s0 :: s1 :: s2 :: s3 :: s4 :: s5 :: s6 :: .val (.int x) :: t) st H Q) : WP l Z a0 n0 R y code mx ret cells slots pc (s0 :: s1 :: s2 :: s3 :: s4 :: s5 :: s6 :: o :: t) (.int x :: st) H Q := by
  subst hp
  exact pure (fun p e m below c T t h hx hc' hs => XS.istore h hx rfl (hb hc' hd) rfl (stl1 [s0, s1, s2, s3, s4, s5, s6] ho rfl) hs) w
theorem istore_8 {s0 s1 s2 s3 s4 s5 s6 s7 : Slot} {o : Slot} {t : List Slot} {x : Int32} {pc' : Nat} (hd : decode code pc = .ok (.istore 8, 2)) (ho : ok1 o = true) (hp : pc + 2 = pc') (w : WP l Z a0 n0 R y code mx ret cells slots pc' (s0 :: s1 :: s2 :: s3 :: s4 :: s5 :: s6 :: s7 :: .val (.int x) :: t) st H Q) : WP l Z a0 n0 R y code mx ret cells slots pc (s0 :: s1 :: s2 :: s3 :: s4 :: s5 :: s6 :: s7 :: o :: t) (.int x :: st) H Q := by
  subst hp
  exact pure (fun p e m below c T t h hx hc' hs => XS.istore h hx rfl (hb hc' hd) rfl (stl1 [s0, s1, s2, s3, s4, s5, s6, s7] ho rfl) hs) w
theorem istore_9 {s0 s1 s2 s3 s4 s5 s6 s7 s8 : Slot} {o : Slot} {t : List Slot} {x : Int32} {pc' : Nat} (hd : decode code pc = .ok (.istore 9, 2)) (ho : ok1 o = true) (hp : pc + 2 = pc') (w : WP l Z a0 n0 R y code mx ret cells slots pc' (s0 :: s1 :: s2 :: s3 :: s4 :: s5 :: s6 :: s7 :: s8 :: .val (.int x) :: t) st H Q) : WP l Z a0 n0 R y code mx ret cells slots pc (s0 :: s1 :: s2 :: s3 :: s4 :: s5 :: s6 :: s7 :: s8 :: o :: t) (.int x :: st) H Q := by
  subst hp
  exact pure (fun p e m below c T t h hx hc' hs => XS.istore h hx rfl (hb hc' hd) rfl (stl1 [s0, s1, s2, s3, s4, s5, s6, s7, s8] ho rfl) hs) w
theorem istore_10 {s0 s1 s2 s3 s4 s5 s6 s7 s8 s9 : Slot} {o : Slot} {t : List Slot} {x : Int32} {pc' : Nat} (hd : decode code pc = .ok (.istore 10, 2)) (ho : ok1 o = true) (hp : pc + 2 = pc') (w : WP l Z a0 n0 R y code mx ret cells slots pc' (s0 :: s1 :: s2 :: s3 :: s4 :: s5 :: s6 :: s7 :: s8 :: s9 :: .val (.int x) :: t) st H Q) : WP l Z a0 n0 R y code mx ret cells slots pc (s0 :: s1 :: s2 :: s3 :: s4 :: s5 :: s6 :: s7 :: s8 :: s9 :: o :: t) (.int x :: st) H Q := by
  subst hp
  exact pure (fun p e m below c T t h hx hc' hs => XS.istore h hx rfl (hb hc' hd) rfl (stl1 [s0, s1, s2, s3, s4, s5, s6, s7, s8, s9] ho rfl) hs) w
theorem istore_11 {s0 s1 s2 s3 s4 s5 s6 s7 s8 s9 s10 : Slot} {o : Slot} {t : List Slot} {x : Int32} {pc' : Nat} (hd : decode code pc = .ok (.istore 11, 2)) (ho : ok1 o = true) (hp : pc + 2 = pc') (w : WP l Z a0 n0 R y code mx ret cells slots pc' (s0 :: s1 :: s2 :: s3 :: s4 :: s5 :: s6 :: s7 :: s8 :: s9 :: s10 :: .val (.int x) :: t) st H Q) : WP l Z a0 n0 R y code mx ret cells slots pc (s0 :: s1 :: s2 :: s3 :: s4 :: s5 :: s6 :: s7 :: s8 :: s9 :: s10 :: o :: t) (.int x :: st) H Q := by
  subst hp
  exact pure (fun p e m below c T t h hx hc' hs => XS.istore h hx rfl (hb hc' hd) rfl (stl1 [s0, s1, s2, s3, s4, s5, s6, s7, s8, s9, s10] ho rfl) hs) w
theorem astore_12 {s0 s1 s2 s3 s4 s5 s6 s7 s8 s9 s10 s11 : Slot} {o : Slot} {t : List Slot} {v : Value} {pc' : Nat} (hd : decode code pc = .ok (.astore 12, 2)) (hv : v.isRef = true) (hc : v.category = 1) (ho : ok1 o = true) (hp : pc + 2 = pc') (w : WP l Z a0 n0 R y code mx ret cells slots pc' (s0 :: s1 :: s2 :: s3 :: s4 :: s5 :: s6 :: s7 :: s8 :: s9 :: s10 :: s11 :: .val (v) :: t) st H Q) : WP l Z a0 n0 R y code mx ret cells slots pc (s0 :: s1 :: s2 :: s3 :: s4 :: s5 :: s6 :: s7 :: s8 :: s9 :: s10 :: s11 :: o :: t) (v :: st) H Q := by
  subst hp
  exact pure (fun p e m below c T t h hx hc' hs => XS.astore h hx rfl (hb hc' hd) rfl hv (stl1 [s0, s1, s2, s3, s4, s5, s6, s7, s8, s9, s10, s11] ho hc) hs) w
theorem astore_13 {s0 s1 s2 s3 s4 s5 s6 s7 s8 s9 s10 s11 s12 : Slot} {o : Slot} {t : List Slot} {v : Value} {pc' : Nat} (hd : decode code pc = .ok (.astore 13, 2)) (hv : v.isRef = true) (hc : v.category = 1) (ho : ok1 o = true) (hp : pc + 2 = pc') (w : WP l Z a0 n0 R y code mx ret cells slots pc' (s0 :: s1 :: s2 :: s3 :: s4 :: s5 :: s6 :: s7 :: s8 :: s9 :: s10 :: s11 :: s12 :: .val (v) :: t) st H Q) : WP l Z a0 n0 R y code mx ret cells slots pc (s0 :: s1 :: s2 :: s3 :: s4 :: s5 :: s6 :: s7 :: s8 :: s9 :: s10 :: s11 :: s12 :: o :: t) (v :: st) H Q := by
  subst hp
  exact pure (fun p e m below c T t h hx hc' hs => XS.astore h hx rfl (hb hc' hd) rfl hv (stl1 [s0, s1, s2, s3, s4, s5, s6, s7, s8, s9, s10, s11, s12] ho hc) hs) w
theorem astore_14 {s0 s1 s2 s3 s4 s5 s6 s7 s8 s9 s10 s11 s12 s13 : Slot} {o : Slot} {t : List Slot} {v : Value} {pc' : Nat} (hd : decode code pc = .ok (.astore 14, 2)) (hv : v.isRef = true) (hc : v.category = 1) (ho : ok1 o = true) (hp : pc + 2 = pc') (w : WP l Z a0 n0 R y code mx ret cells slots pc' (s0 :: s1 :: s2 :: s3 :: s4 :: s5 :: s6 :: s7 :: s8 :: s9 :: s10 :: s11 :: s12 :: s13 :: .val (v) :: t) st H Q) : WP l Z a0 n0 R y code mx ret cells slots pc (s0 :: s1 :: s2 :: s3 :: s4 :: s5 :: s6 :: s7 :: s8 :: s9 :: s10 :: s11 :: s12 :: s13 :: o :: t) (v :: st) H Q := by
  subst hp
  exact pure (fun p e m below c T t h hx hc' hs => XS.astore h hx rfl (hb hc' hd) rfl hv (stl1 [s0, s1, s2, s3, s4, s5, s6, s7, s8, s9, s10, s11, s12, s13] ho hc) hs) w
theorem istore_15 {s0 s1 s2 s3 s4 s5 s6 s7 s8 s9 s10 s11 s12 s13 s14 : Slot} {o : Slot} {t : List Slot} {x : Int32} {pc' : Nat} (hd : decode code pc = .ok (.istore 15, 2)) (ho : ok1 o = true) (hp : pc + 2 = pc') (w : WP l Z a0 n0 R y code mx ret cells slots pc' (s0 :: s1 :: s2 :: s3 :: s4 :: s5 :: s6 :: s7 :: s8 :: s9 :: s10 :: s11 :: s12 :: s13 :: s14 :: .val (.int x) :: t) st H Q) : WP l Z a0 n0 R y code mx ret cells slots pc (s0 :: s1 :: s2 :: s3 :: s4 :: s5 :: s6 :: s7 :: s8 :: s9 :: s10 :: s11 :: s12 :: s13 :: s14 :: o :: t) (.int x :: st) H Q := by
  subst hp
  exact pure (fun p e m below c T t h hx hc' hs => XS.istore h hx rfl (hb hc' hd) rfl (stl1 [s0, s1, s2, s3, s4, s5, s6, s7, s8, s9, s10, s11, s12, s13, s14] ho rfl) hs) w
theorem istore_16 {s0 s1 s2 s3 s4 s5 s6 s7 s8 s9 s10 s11 s12 s13 s14 s15 : Slot} {o : Slot} {t : List Slot} {x : Int32} {pc' : Nat} (hd : decode code pc = .ok (.istore 16, 2)) (ho : ok1 o = true) (hp : pc + 2 = pc') (w : WP l Z a0 n0 R y code mx ret cells slots pc' (s0 :: s1 :: s2 :: s3 :: s4 :: s5 :: s6 :: s7 :: s8 :: s9 :: s10 :: s11 :: s12 :: s13 :: s14 :: s15 :: .val (.int x) :: t) st H Q) : WP l Z a0 n0 R y code mx ret cells slots pc (s0 :: s1 :: s2 :: s3 :: s4 :: s5 :: s6 :: s7 :: s8 :: s9 :: s10 :: s11 :: s12 :: s13 :: s14 :: s15 :: o :: t) (.int x :: st) H Q := by
  subst hp
  exact pure (fun p e m below c T t h hx hc' hs => XS.istore h hx rfl (hb hc' hd) rfl (stl1 [s0, s1, s2, s3, s4, s5, s6, s7, s8, s9, s10, s11, s12, s13, s14, s15] ho rfl) hs) w
theorem ldcI {i : Nat} {n : Int32} {pc' : Nat} (hw : (Cond.constant y.cls i n).before a0 Z = true) (hd : decode code pc = .ok (.ldc i, 2)) (hp : pc + 2 = pc') (w : WP l Z a0 n0 R y code mx ret cells slots pc' Ls (.int n :: st) H Q) : WP l Z a0 n0 R y code mx ret cells slots pc Ls st H Q := by
  subst hp
  exact stepT (fun p e s m args below meth c T locs X hx hZ hc hm ho hR => ⟨T, X, rfl, X.ldcInt hx ho (mvT hZ hw) (g := mkF m pc ⟨Ls⟩ st) rfl (hb hc hd)⟩) w
theorem getfield {i : Nat} {C n d : String} {a : Addr} {v : Value} {fs : List (String × String × Value)} {pc' : Nat} (k j : Nat) (hw : (Cond.fieldLink y.cls i C n d).before a0 Z = true) (hd : decode code pc = .ok (.getfield i, 3)) (hk : H[k]? = some (a, .inr (C, fs))) (hj : fs[j]? = some (n, d, v)) (hp : pc + 3 = pc') (w : WP l Z a0 n0 R y code mx ret cells slots pc' Ls (v :: st) H Q) : WP l Z a0 n0 R y code mx ret cells slots pc Ls (.ref a :: st) H Q := by
  subst hp
  exact stepT (fun p e s m args below meth c T locs X hx hZ hc hm ho hR => by
    have F := ((hR.at hk).2.2.2 _ (List.mem_of_getElem? hj)).1
    exact getF X hx hZ ho (host := "") (Or.inl hw) Via.refl rfl F (g := mkF m pc ⟨Ls⟩ (.ref a :: st)) rfl rfl (hb hc hd)) w
theorem arraylength {ty : FieldType} {a : Addr} {vs : List Value} {pc' : Nat} (k : Nat) (n : Int32) (hd : decode code pc = .ok (.arraylength, 1)) (hk : H[k]? = some (a, .inl (ty, vs))) (hn : Int32.ofNat vs.length = n) (hp : pc + 1 = pc') (w : WP l Z a0 n0 R y code mx ret cells slots pc' Ls (.int n :: st) H Q) : WP l Z a0 n0 R y code mx ret cells slots pc Ls (.ref a :: st) H Q := by
  subst hp hn
  exact stepT (fun p e s m args below meth c T locs X hx hZ hc hm ho hR => ⟨T, X, rfl, fun target hs => by
    obtain ⟨cl, A, q1, q2⟩ := (hR.at hk).2
    refine X.arraylength hx A.1 (State.isArrayOf_alike hZ.alike A.2.1) (g := mkF m pc ⟨Ls⟩ (.ref a :: st)) rfl rfl (hb hc hd) _ ?_
    rw [q1, List.size_toArray]; exact hs⟩) w
theorem iaload {a : Addr} {vs : List Value} {j : Int32} {v : Value} {pc' : Nat} (k i : Nat) (hd : decode code pc = .ok (.iaload, 1)) (hk : H[k]? = some (a, .inl (.int, vs))) (hj : j.toInt = (i : Int)) (hv : vs[i]? = some v) (hp : pc + 1 = pc') (w : WP l Z a0 n0 R y code mx ret cells slots pc' Ls (v :: st) H Q) : WP l Z a0 n0 R y code mx ret cells slots pc Ls (.int j :: .ref a :: st) H Q := by
  subst hp
  exact stepT (fun p e s m args below meth c T locs X hx hZ hc hm ho hR => ⟨T, X, rfl, fun target hs => by
    obtain ⟨cl, A, q1, q2⟩ := (hR.at hk).2
    have q3 : j.toNatClampNeg = i := idx_eq hj
    have q4 : cl.slots[j.toNatClampNeg]? = some v := by rw [q1, q3]; simpa using hv
    exact X.iaload hx A.1 (State.isArrayOf_alike hZ.alike A.2.1) A.2.2 (idx_ok hj (by rw [q1, List.size_toArray]; exact (List.getElem?_eq_some_iff.mp hv).1)) q4 (g := mkF m pc ⟨Ls⟩ (.int j :: .ref a :: st)) rfl rfl (hb hc hd) _ hs⟩) w
theorem iastoreG (pre : MH) {post : MH} {a : Addr} {vs : List Value} {j : Int32} {x : Int32} {pc' : Nat} (i : Nat) (hd : decode code pc = .ok (.iastore, 1)) (hj : j.toInt = (i : Int)) (hi : i < vs.length) (hp : pc + 1 = pc') (w : WP l Z a0 n0 R y code mx ret cells slots pc' Ls st (pre ++ (a, .inl (.int, vs.set i (.int x))) :: post) Q) : WP l Z a0 n0 R y code mx ret cells slots pc Ls ((.int x) :: .int j :: .ref a :: st) (pre ++ (a, .inl (.int, vs)) :: post) Q := by
  subst hp
  exact stepW (pre := pre) (fun p e s m args below meth c T locs X hx hZ hc hm ho hn hR => by
    obtain ⟨cl, A, q1, q2⟩ := hR
    have q3 : j.toNatClampNeg = i := idx_eq hj
    obtain ⟨T', h', X', e', W, st⟩ := stI X hx hZ rfl A (x := x) (idx_ok hj (by rw [q1, List.size_toArray]; exact hi)) (g := mkF m pc ⟨Ls⟩ ((.int x) :: .int j :: .ref a :: st)) rfl rfl (hb hc hd)
    rw [q3] at W X'
    exact ⟨T', h', _, _, X', e', W, fun k => k.setArr W, st⟩) w
theorem iastore_0 {post : MH} {a : Addr} {vs : List Value} {j : Int32} {x : Int32} {pc' : Nat} (i : Nat) (hd : decode code pc = .ok (.iastore, 1)) (hj : j.toInt = (i : Int)) (hi : i < vs.length) (hp : pc + 1 = pc') (w : WP l Z a0 n0 R y code mx ret cells slots pc' Ls st ((a, .inl (.int, vs.set i (.int x))) :: post) Q) : WP l Z a0 n0 R y code mx ret cells slots pc Ls ((.int x) :: .int j :: .ref a :: st) ((a, .inl (.int, vs)) :: post) Q := iastoreG [] i hd hj hi hp w
theorem putfieldG (pre : MH) (fpre : List (String × String × Value)) {post : MH} {fpost : List (String × String × Value)} {i kk : Nat} {C n d : String} {a : Addr} {v u : Value} {ty : FieldType} {pc' : Nat} (hw : (Cond.fieldLink y.cls i C n d).before a0 Z = true) (hL : (Cond.lays C C n d).before a0 Z = true ∨ ((Cond.laysFinal C C n d).before a0 Z = true ∧ y.cls = C ∧ y.name = "<init>")) (hI : (Cond.instantiable C kk).before a0 Z = true) (hty : parseFieldDescriptor d = some ty) (hn : narrow ty v = v) (hf : fits ty v = true) (hd : decode code pc = .ok (.putfield i, 3)) (hp : pc + 3 = pc') (w : WP l Z a0 n0 R y code mx ret cells slots pc' Ls st (pre ++ (a, .inr (C, fpre ++ (n, d, v) :: fpost)) :: post) Q) : WP l Z a0 n0 R y code mx ret cells slots pc Ls (v :: .ref a :: st) (pre ++ (a, .inr (C, fpre ++ (n, d, u) :: fpost)) :: post) Q := by
  subst hp
  exact stepW (pre := pre) (fun p e s m args below meth c T locs X hx hZ hc hm ho hnm hR => by
    have F := (hR.2.2 (n, d, u) (by simp)).1
    obtain ⟨T', h', X', e', W, st⟩ := putF X hx hZ ho (host := "") (Or.inl hw) Via.refl rfl F hR.1 (hL.imp id fun q => ⟨q.1, q.2.1, hnm.trans q.2.2⟩) hI hty hn hf (g := mkF m pc ⟨Ls⟩ (v :: .ref a :: st)) rfl rfl (hb hc hd)
    exact ⟨T', h', _, _, X', e', W, fun k => k.setFld W, st⟩) w
theorem putfield_0_0 {post : MH} {fpost : List (String × String × Value)} {i kk : Nat} {C n d : String} {a : Addr} {v u : Value} {ty : FieldType} {pc' : Nat} (hw : (Cond.fieldLink y.cls i C n d).before a0 Z = true) (hL : (Cond.lays C C n d).before a0 Z = true ∨ ((Cond.laysFinal C C n d).before a0 Z = true ∧ y.cls = C ∧ y.name = "<init>")) (hI : (Cond.instantiable C kk).before a0 Z = true) (hty : parseFieldDescriptor d = some ty) (hn : narrow ty v = v) (hf : fits ty v = true) (hd : decode code pc = .ok (.putfield i, 3)) (hp : pc + 3 = pc') (w : WP l Z a0 n0 R y code mx ret cells slots pc' Ls st ((a, .inr (C, (n, d, v) :: fpost)) :: post) Q) : WP l Z a0 n0 R y code mx ret cells slots pc Ls (v :: .ref a :: st) ((a, .inr (C, (n, d, u) :: fpost)) :: post) Q := putfieldG [] [] hw hL hI hty hn hf hd hp w
theorem putfield_0_1 {f0 : String × String × Value} {post : MH} {fpost : List (String × String × Value)} {i kk : Nat} {C n d : String} {a : Addr} {v u : Value} {ty : FieldType} {pc' : Nat} (hw : (Cond.fieldLink y.cls i C n d).before a0 Z = true) (hL : (Cond.lays C C n d).before a0 Z = true ∨ ((Cond.laysFinal C C n d).before a0 Z = true ∧ y.cls = C ∧ y.name = "<init>")) (hI : (Cond.instantiable C kk).before a0 Z = true) (hty : parseFieldDescriptor d = some ty) (hn : narrow ty v = v) (hf : fits ty v = true) (hd : decode code pc = .ok (.putfield i, 3)) (hp : pc + 3 = pc') (w : WP l Z a0 n0 R y code mx ret cells slots pc' Ls st ((a, .inr (C, f0 :: (n, d, v) :: fpost)) :: post) Q) : WP l Z a0 n0 R y code mx ret cells slots pc Ls (v :: .ref a :: st) ((a, .inr (C, f0 :: (n, d, u) :: fpost)) :: post) Q := putfieldG [] [f0] hw hL hI hty hn hf hd hp w
theorem putfield_0_2 {f0 f1 : String × String × Value} {post : MH} {fpost : List (String × String × Value)} {i kk : Nat} {C n d : String} {a : Addr} {v u : Value} {ty : FieldType} {pc' : Nat} (hw : (Cond.fieldLink y.cls i C n d).before a0 Z = true) (hL : (Cond.lays C C n d).before a0 Z = true ∨ ((Cond.laysFinal C C n d).before a0 Z = true ∧ y.cls = C ∧ y.name = "<init>")) (hI : (Cond.instantiable C kk).before a0 Z = true) (hty : parseFieldDescriptor d = some ty) (hn : narrow ty v = v) (hf : fits ty v = true) (hd : decode code pc = .ok (.putfield i, 3)) (hp : pc + 3 = pc') (w : WP l Z a0 n0 R y code mx ret cells slots pc' Ls st ((a, .inr (C, f0 :: f1 :: (n, d, v) :: fpost)) :: post) Q) : WP l Z a0 n0 R y code mx ret cells slots pc Ls (v :: .ref a :: st) ((a, .inr (C, f0 :: f1 :: (n, d, u) :: fpost)) :: post) Q := putfieldG [] [f0, f1] hw hL hI hty hn hf hd hp w
theorem putfield_0_3 {f0 f1 f2 : String × String × Value} {post : MH} {fpost : List (String × String × Value)} {i kk : Nat} {C n d : String} {a : Addr} {v u : Value} {ty : FieldType} {pc' : Nat} (hw : (Cond.fieldLink y.cls i C n d).before a0 Z = true) (hL : (Cond.lays C C n d).before a0 Z = true ∨ ((Cond.laysFinal C C n d).before a0 Z = true ∧ y.cls = C ∧ y.name = "<init>")) (hI : (Cond.instantiable C kk).before a0 Z = true) (hty : parseFieldDescriptor d = some ty) (hn : narrow ty v = v) (hf : fits ty v = true) (hd : decode code pc = .ok (.putfield i, 3)) (hp : pc + 3 = pc') (w : WP l Z a0 n0 R y code mx ret cells slots pc' Ls st ((a, .inr (C, f0 :: f1 :: f2 :: (n, d, v) :: fpost)) :: post) Q) : WP l Z a0 n0 R y code mx ret cells slots pc Ls (v :: .ref a :: st) ((a, .inr (C, f0 :: f1 :: f2 :: (n, d, u) :: fpost)) :: post) Q := putfieldG [] [f0, f1, f2] hw hL hI hty hn hf hd hp w
theorem putfield_0_4 {f0 f1 f2 f3 : String × String × Value} {post : MH} {fpost : List (String × String × Value)} {i kk : Nat} {C n d : String} {a : Addr} {v u : Value} {ty : FieldType} {pc' : Nat} (hw : (Cond.fieldLink y.cls i C n d).before a0 Z = true) (hL : (Cond.lays C C n d).before a0 Z = true ∨ ((Cond.laysFinal C C n d).before a0 Z = true ∧ y.cls = C ∧ y.name = "<init>")) (hI : (Cond.instantiable C kk).before a0 Z = true) (hty : parseFieldDescriptor d = some ty) (hn : narrow ty v = v) (hf : fits ty v = true) (hd : decode code pc = .ok (.putfield i, 3)) (hp : pc + 3 = pc') (w : WP l Z a0 n0 R y code mx ret cells slots pc' Ls st ((a, .inr (C, f0 :: f1 :: f2 :: f3 :: (n, d, v) :: fpost)) :: post) Q) : WP l Z a0 n0 R y code mx ret cells slots pc Ls (v :: .ref a :: st) ((a, .inr (C, f0 :: f1 :: f2 :: f3 :: (n, d, u) :: fpost)) :: post) Q := putfieldG [] [f0, f1, f2, f3] hw hL hI hty hn hf hd hp w
theorem newarray {aty : ArrayType} {n : Int32} {pc' : Nat} {ty : FieldType} (i cap : Nat) (vs : List Value) (hw : (Cond.arrayClass ty).before a0 Z = true) (hd : decode code pc = .ok (.newarray aty, 2)) (hn : n.toInt = (i : Int)) (hcap : i ≤ cap) (hbig : cap * 8 ≤ 536870912) (hc : cells + 1 ≤ R.cells) (hl : slots + cap ≤ R.slots) (hvs : List.replicate i (defaultValue ty) = vs) (hp : pc + 2 = pc') (hty : newarray.typeOf aty = ty) {cells' slots' : Nat} (hc' : cells + 1 = cells') (hs' : slots + cap = slots') (w : ∀ a : Addr, WP l Z a0 n0 R y code mx ret cells' slots' pc' Ls (.ref a :: st) ((a, .inl (ty, vs)) :: H) Q) : WP l Z a0 n0 R y code mx ret cells slots pc Ls (.int n :: st) H Q := by
  subst hp hvs hty hc' hs'
  intro p e s m args below meth c T locs X hx hZ hcode hm ho hnm hr hlk hF hR g1 g2
  have q3 : n.toNatClampNeg = i := idx_eq hn
  obtain ⟨T', h', cA, X', e', E, A, st⟩ := newP X hx hZ hw rfl (g := mkF m pc ⟨Ls⟩ (.int n :: st)) rfl (hb hcode hd) rfl (fun q => by rw [Int32.lt_iff_toInt_lt, hn] at q; simp at q; omega) (cap := cap) (by rw [q3]; exact hcap) hbig hc hl
  have hlt : i < 2 ^ 31 := by have := n.toInt_lt; rw [hn] at this; omega
  obtain ⟨v, H', L, s2, k1, k2⟩ := w _ p e s m args below meth c T' locs X' hx hZ hcode hm ho hnm hr hlk hF (by rw [e']; exact hR.push E ⟨_, A, by simp [newA, q3], by simpa using hlt⟩) hc hl
  exact ⟨v, H', L, s2, st _ k1, k2⟩
theorem new_ {i k : Nat} {C : String} {pc' : Nat} (fs : List (String × String × Value)) (hw : (Cond.classLink y.cls i C).before a0 Z = true) (hI : (Cond.instantiable C k).before a0 Z = true) (hz : (Cond.initialized C).before a0 Z = true) (hN : (fs.map (·.1)).Nodup) (hfs : ∀ x ∈ fs, Laid Z a0 C C x.1 x.2.1 ∧ ∃ t, parseFieldDescriptor x.2.1 = some t ∧ defaultValue t = x.2.2) (hd : decode code pc = .ok (.new i, 3)) (hc : cells + 1 ≤ R.cells) (hl : slots + k ≤ R.slots) (hp : pc + 3 = pc') {cells' slots' : Nat} (hc' : cells + 1 = cells') (hs' : slots + k = slots') (w : ∀ a : Addr, WP l Z a0 n0 R y code mx ret cells' slots' pc' Ls (.ref a :: st) ((a, .inr (C, fs)) :: H) Q) : WP l Z a0 n0 R y code mx ret cells slots pc Ls st H Q := by
  subst hp hc' hs'
  intro p e s m args below meth c T locs X hx hZ hcode hm ho hnm hr hlk hF hR g1 g2
  obtain ⟨T', h', X', e', E, A, D, -, st⟩ := newO X hx hZ ho hw hI hz rfl (g := mkF m pc ⟨Ls⟩ st) rfl (hb hcode hd) hc hl
  obtain ⟨v, H', L, s2, k1, k2⟩ := w _ p e s m args below meth c T' locs X' hx hZ hcode hm ho hnm hr hlk hF (by
    rw [e']
    refine hR.push E ⟨A, hN, fun x hx => ?_⟩
    obtain ⟨q1, t, q2, q3⟩ := hfs x hx
    exact ⟨q3 ▸ D q1 q2, q1, t, q2⟩) hc hl
  exact ⟨v, H', L, s2, st _ k1, k2⟩
theorem initObj {i : Nat} {a : Addr} {pc' : Nat} (W : Nat) (w1 : (Cond.methodLink y.cls i Lib.objectInit).before a0 Z = true) (w2 : (Cond.instanceMethod Lib.objectInit).before a0 Z = true) (w3 : (Cond.code Lib.objectInit ⟨#[0xb1]⟩ 1 none).before a0 Z = true) (hd : decode code pc = .ok (.invokespecial i, 3)) (hs : Ls.length = mx) (hf : 1 ≤ R.frames) (hW : (st.map fun v => v.category).sum = W) (hl : W + 12 ≤ R.locals) (hp : pc + 3 = pc') (w : WP l Z a0 n0 R y code mx ret cells slots pc' Ls st H Q) : WP l Z a0 n0 R y code mx ret cells slots pc Ls (.ref a :: st) H Q := by
  subst hp
  exact stepT (fun p e s m args below meth c T locs X hx hZ hc hm ho hR => initO X hx hZ ho w1 w2 w3 rfl (g := mkF m pc ⟨Ls⟩ (.ref a :: st)) rfl (by rw [hm]; simpa using hs) rfl (hb hc hd) hf (W := W) (by show 2 * 0 + _ ≤ _; omega) hl) w
theorem leaveW {v : Option Value} {st : List Value} (hv : ret = none → v = none) (q : Q v H)
    (h : ∀ (p : Program) (e : Env) (s : State) (m : MethodId) (args : Array Value) (below : List Frame) (meth : Method) (c : Code) (T : State) (locs : List Loc) (fs : List Frame), Stand p l e R s m args below meth c T locs cells slots → p.tables.exec = Jvm.exec → c.code = code → meth.sig.returnType = ret → (∀ (f : JFrame) (acts : List Action), f.method = m → f.locked = none → f.entered = [] → (doReturn e (T.setTop f) acts v).1 = T.setFrames fs) → Steps p.tables e below (T.setTop (mkF m pc ⟨Ls⟩ st)) (T.setFrames fs)) : WP l Z a0 n0 R y code mx ret cells slots pc Ls st H Q := by
  intro p e s m args below meth c T locs X hx hZ hc hm ho hn hr hl hF hR g1 g2
  obtain ⟨fs, hrr, hrun, hended, hW, hsame⟩ := X.leave (v := v) (fun k => hv (by rw [← hr]; exact k)) hl
  exact ⟨v, H, locs, _, h p e s m args below meth c T locs fs X hx hc hr hrr, hrun, hended, hF, hR, q, hW, hsame.mono g1 g2⟩
theorem ireturn {z : Int32} (hret : ret = some .int) (hd : decode code pc = .ok (.ireturn, 1)) (q : Q (some (.int z)) H) : WP l Z a0 n0 R y code mx ret cells slots pc Ls (.int z :: st) H Q :=
  leaveW (fun k => by rw [hret] at k; cases k) q fun p e s m args below meth c T locs fs X hx hc hr hrr => retI X hx (hr.trans hret) (hb hc hd) hrr
theorem zreturn {z : Int32} (hret : ret = some .boolean) (hd : decode code pc = .ok (.ireturn, 1)) (q : Q (some (.int (z &&& 1))) H) : WP l Z a0 n0 R y code mx ret cells slots pc Ls (.int z :: st) H Q :=
  leaveW (fun k => by rw [hret] at k; cases k) q fun p e s m args below meth c T locs fs X hx hc hr hrr => retN X hx (t := .boolean) (hr.trans hret) (by simp) (hb hc hd) hrr
theorem areturn {t : FieldType} {v : Value} (hret : ret = some t) (ht : t.isReference = true) (hv : v.isRef = true) (hn : narrow t v = v) (hd : decode code pc = .ok (.areturn, 1)) (q : Q (some v) H) : WP l Z a0 n0 R y code mx ret cells slots pc Ls (v :: st) H Q :=
  leaveW (fun k => by rw [hret] at k; cases k) q fun p e s m args below meth c T locs fs X hx hc hr hrr => retOut X hx (hr.trans hret) hn (Or.inr (Or.inr (Or.inr (Or.inr ⟨rfl, ht, hv⟩)))) (hb hc hd) hrr
theorem return_ (hret : ret = none) (hd : decode code pc = .ok (.return_, 1)) (q : Q none H) : WP l Z a0 n0 R y code mx ret cells slots pc Ls [] H Q :=
  leaveW (fun _ => rfl) q fun p e s m args below meth c T locs fs X hx hc hr hrr => X.returnOut hx (hr.trans hret) (hb hc hd) hrr
/-- what a call by a contract leaves -/
def After (l : Launch) (Z : State) (a0 : Array Value) (n0 : Nat) (R : Room) (y : MethodName) (code : ByteArray) (mx : Nat) (ret : Option FieldType) (cells slots pc : Nat) (Ls : List Slot) (st : List Value) (Q : Option Value → MH → Prop) : Option Value → MH → Prop
  | some r, H' => WP l Z a0 n0 R y code mx ret cells slots pc Ls (r :: st) H' Q
  | none, H' => WP l Z a0 n0 R y code mx ret cells slots pc Ls st H' Q
theorem After.to {v : Option Value} {H' : MH} (h : After l Z a0 n0 R y code mx ret cells slots pc Ls st Q v H') : WP l Z a0 n0 R y code mx ret cells slots pc Ls (v.toList ++ st) H' Q := by
  cases v <;> exact h
theorem callSG {z : MethodName} {zc : ByteArray} {zm : Nat} {zr : Option FieldType} {ps : List FieldType} {i : Nat} {rm : Room} {pc' : Nat} (W : Nat) (argsL : List Value) {rest : List Value} (w1 : (Cond.methodLink y.cls i z).before a0 Z = true) (w2 : (Cond.static z).before a0 Z = true) (w3 : (Cond.initialized z.cls).before a0 Z = true) (w4 : (Cond.code z zc zm zr).before a0 Z = true) (hy : z.cls ≠ "java/lang/invoke/MethodHandle" ∧ z.cls ≠ "java/lang/invoke/VarHandle") (hds : parseMethodDescriptor z.desc = some ⟨ps, zr⟩) (hlen : argsL.length = ps.length) (hd : decode code pc = .ok (.invokestatic i, 3)) (hs : Ls.length = mx) (hW : (rest.map fun v => v.category).sum = W) (hf : rm.frames + 1 ≤ R.frames) (hl : W + (zm + 11) + rm.locals ≤ R.locals) (hc : cells + rm.cells ≤ R.cells) (hsl : slots + rm.slots ≤ R.slots) (hp : pc + 3 = pc') {cells' slots' : Nat} (hc' : cells + rm.cells = cells') (hs' : slots + rm.slots = slots') (hst : st = argsL.reverse ++ rest)
    (k : Con l Z a0 n0 z zc zm zr rm argsL.toArray H (After l Z a0 n0 R y code mx ret cells' slots' pc' Ls rest Q)) : WP l Z a0 n0 R y code mx ret cells slots pc Ls st H Q := by
  subst hp hst hc' hs'
  intro p e s m args below meth c T locs X hx hZ hcode hm ho hnm hr hlk hF hR g1 g2
  obtain ⟨v, vm, ⟨T', L', k', n'⟩, -, X', ⟨Lc, ⟨q1, H', q2, q3⟩, e1, e2, e3⟩, st'⟩ := Jvm.LawKit.callS X hx (y := z) ho (mvT hZ w1) (mvT hZ w2) (mvT hZ w3) (mvT hZ w4) hy (backOf (W := W) (h := T.heap) (Q := fun v h L => Fr n0 L ∧ ∃ H', Rel Z a0 n0 H' h ∧ After l Z a0 n0 R y code mx ret (cells + rm.cells) (slots + rm.slots) (pc + 3) Ls rest Q v H') (k [] T.heap hR) hZ w4 w3 hf hl) (g := mkF m pc ⟨Ls⟩ (argsL.reverse ++ rest)) rfl (by rw [hm]; simpa using hs) (argsL := argsL) (rest := rest) (lenOf hds hlen) rfl (by show 2 * 0 + _ ≤ _; omega) (hb hcode hd) (fun _ _ => ⟨rfl, rfl, hc, hsl⟩)
  dsimp only [Pt.U, Pt.locs, Pt.cells, Pt.slots] at X' e1 e2 e3 st'
  subst e1 e2 e3
  obtain ⟨v2, H2, L2, s2, k1, k2⟩ := (After.to q3) p e s m args below meth c T' _ X' hx hZ hcode hm ho hnm hr hlk (Fr.app hF q1) q2 hc hsl
  exact ⟨v2, H2, L2, s2, st' _ k1, k2⟩
theorem callIG {z : MethodName} {zc : ByteArray} {zm : Nat} {ps : List FieldType} {i : Nat} {rm : Room} {pc' : Nat} {a : Addr} (W : Nat) (argsL : List Value) {rest : List Value} (hzn : z.name = "<init>") (w1 : (Cond.methodLink y.cls i z).before a0 Z = true) (w2 : (Cond.instanceMethod z).before a0 Z = true) (w3 : (Cond.initialized z.cls).before a0 Z = true) (w4 : (Cond.code z zc zm none).before a0 Z = true) (hy : z.cls ≠ "java/lang/invoke/MethodHandle" ∧ z.cls ≠ "java/lang/invoke/VarHandle") (hds : parseMethodDescriptor z.desc = some ⟨ps, none⟩) (hlen : argsL.length = ps.length) (hd : decode code pc = .ok (.invokespecial i, 3)) (hs : Ls.length = mx) (hW : (rest.map fun v => v.category).sum = W) (hf : rm.frames + 1 ≤ R.frames) (hl : W + (zm + 11) + rm.locals ≤ R.locals) (hc : cells + rm.cells ≤ R.cells) (hsl : slots + rm.slots ≤ R.slots) (hp : pc + 3 = pc') {cells' slots' : Nat} (hc' : cells + rm.cells = cells') (hs' : slots + rm.slots = slots') (hst : st = argsL.reverse ++ .ref a :: rest)
    (k : Con l Z a0 n0 z zc zm none rm (.ref a :: argsL).toArray H (After l Z a0 n0 R y code mx ret cells' slots' pc' Ls rest Q)) : WP l Z a0 n0 R y code mx ret cells slots pc Ls st H Q := by
  subst hp hst hc' hs'
  intro p e s m args below meth c T locs X hx hZ hcode hm ho hnm hr hlk hF hR g1 g2
  obtain ⟨v, vm, ⟨T', L', k', n'⟩, -, X', ⟨Lc, ⟨q1, H', q2, q3⟩, e1, e2, e3⟩, st'⟩ := X.specialBack hx (y := z) hzn ho (mvT hZ w1) (mvT hZ w2) (mvT hZ w4) hy (backOf (W := W) (h := T.heap) (Q := fun v h L => Fr n0 L ∧ ∃ H', Rel Z a0 n0 H' h ∧ After l Z a0 n0 R y code mx ret (cells + rm.cells) (slots + rm.slots) (pc + 3) Ls rest Q v H') (k [] T.heap hR) hZ w4 w3 hf hl) (g := mkF m pc ⟨Ls⟩ (argsL.reverse ++ .ref a :: rest)) rfl (by rw [hm]; simpa using hs) (Steps.refl _) (a := a) (argsL := argsL) (rest := rest) (lenOf hds hlen) rfl (by show 2 * 0 + _ ≤ _; omega) (hb hcode hd) (fun _ _ => ⟨rfl, rfl, hc, hsl⟩)
  dsimp only [Pt.U, Pt.locs, Pt.cells, Pt.slots] at X' e1 e2 e3 st'
  subst e1 e2 e3
  obtain ⟨v2, H2, L2, s2, k1, k2⟩ := (After.to q3) p e s m args below meth c T' _ X' hx hZ hcode hm ho hnm hr hlk (Fr.app hF q1) q2 hc hsl
  exact ⟨v2, H2, L2, s2, st'.trans k1, k2⟩
theorem callVG {z : MethodName} {zc : ByteArray} {zm : Nat} {zr : Option FieldType} {ps : List FieldType} {i : Nat} {rm : Room} {pc' : Nat} {a : Addr} {fs : List (String × String × Value)} (kk W : Nat) (argsL : List Value) {rest : List Value} (w1 : (Cond.methodLink y.cls i z).before a0 Z = true) (wd : (Cond.declares z).before a0 Z = true) (ws : (Cond.selects z.cls z z).before a0 Z = true) (w2 : (Cond.instanceMethod z).before a0 Z = true) (w3 : (Cond.initialized z.cls).before a0 Z = true) (w4 : (Cond.code z zc zm zr).before a0 Z = true) (hy : z.cls ≠ "java/lang/invoke/MethodHandle" ∧ z.cls ≠ "java/lang/invoke/VarHandle") (hds : parseMethodDescriptor z.desc = some ⟨ps, zr⟩) (hlen : argsL.length = ps.length) (hd : decode code pc = .ok (.invokevirtual i, 3)) (hk : H[kk]? = some (a, .inr (z.cls, fs))) (hs : Ls.length = mx) (hW : (rest.map fun v => v.category).sum = W) (hf : rm.frames + 1 ≤ R.frames) (hl : W + (zm + 11) + rm.locals ≤ R.locals) (hc : cells + rm.cells ≤ R.cells) (hsl : slots + rm.slots ≤ R.slots) (hp : pc + 3 = pc') {cells' slots' : Nat} (hc' : cells + rm.cells = cells') (hs' : slots + rm.slots = slots') (hst : st = argsL.reverse ++ .ref a :: rest)
    (k : Con l Z a0 n0 z zc zm zr rm (.ref a :: argsL).toArray H (After l Z a0 n0 R y code mx ret cells' slots' pc' Ls rest Q)) : WP l Z a0 n0 R y code mx ret cells slots pc Ls st H Q := by
  subst hp hst hc' hs'
  intro p e s m args below meth c T locs X hx hZ hcode hm ho hnm hr hlk hF hR g1 g2
  obtain ⟨cq, kq, qa, qb, qc⟩ := isOf hZ (T := T) rfl (hR.at hk).2.1
  obtain ⟨v, vm, ⟨T', L', k', n'⟩, -, X', ⟨Lc, ⟨q1, H', q2, q3⟩, e1, e2, e3⟩, st'⟩ := X.virtualBack hx (y := z) (z := z) ho (mvT hZ w1) (mvT hZ wd) (notFace_of_selects (args := #[]) (mvT hZ ws)) (mvT hZ ws) (mvT hZ w2) hy (backOf (W := W) (h := T.heap) (Q := fun v h L => Fr n0 L ∧ ∃ H', Rel Z a0 n0 H' h ∧ After l Z a0 n0 R y code mx ret (cells + rm.cells) (slots + rm.slots) (pc + 3) Ls rest Q v H') (k [] T.heap hR) hZ w4 w3 hf hl) qa qc (g := mkF m pc ⟨Ls⟩ (argsL.reverse ++ .ref a :: rest)) rfl (by rw [hm]; simpa using hs) (Steps.refl _) (argsL := argsL) (rest := rest) (lenOf hds hlen) rfl (by show 2 * 0 + _ ≤ _; omega) (hb hcode hd) (fun _ _ => ⟨rfl, rfl, hc, hsl⟩)
  dsimp only [Pt.U, Pt.locs, Pt.cells, Pt.slots] at X' e1 e2 e3 st'
  subst e1 e2 e3
  obtain ⟨v2, H2, L2, s2, k1, k2⟩ := (After.to q3) p e s m args below meth c T' _ X' hx hZ hcode hm ho hnm hr hlk (Fr.app hF q1) q2 hc hsl
  exact ⟨v2, H2, L2, s2, st'.trans k1, k2⟩
theorem afterS {r : Value} {H' : MH} (h : WP l Z a0 n0 R y code mx ret cells slots pc Ls (r :: st) H' Q) : After l Z a0 n0 R y code mx ret cells slots pc Ls st Q (some r) H' := h
theorem afterN {H' : MH} (h : WP l Z a0 n0 R y code mx ret cells slots pc Ls st H' Q) : After l Z a0 n0 R y code mx ret cells slots pc Ls st Q none H' := h
theorem callS_2 {z : MethodName} {zc : ByteArray} {zm : Nat} {zr : Option FieldType} {ps : List FieldType} {i : Nat} {rm : Room} {pc' : Nat} (W : Nat) {v0 v1 : Value} {rest : List Value} (w1 : (Cond.methodLink y.cls i z).before a0 Z = true) (w2 : (Cond.static z).before a0 Z = true) (w3 : (Cond.initialized z.cls).before a0 Z = true) (w4 : (Cond.code z zc zm zr).before a0 Z = true) (hy : z.cls ≠ "java/lang/invoke/MethodHandle" ∧ z.cls ≠ "java/lang/invoke/VarHandle") (hds : parseMethodDescriptor z.desc = some ⟨ps, zr⟩) (hlen : 2 = ps.length) (hd : decode code pc = .ok (.invokestatic i, 3)) (hs : Ls.length = mx) (hW : (rest.map fun v => v.category).sum = W) (hf : rm.frames + 1 ≤ R.frames) (hl : W + (zm + 11) + rm.locals ≤ R.locals) (hc : cells + rm.cells ≤ R.cells) (hsl : slots + rm.slots ≤ R.slots) (hp : pc + 3 = pc') {cells' slots' : Nat} (hc' : cells + rm.cells = cells') (hs' : slots + rm.slots = slots') (k : Con l Z a0 n0 z zc zm zr rm #[v0, v1] H (After l Z a0 n0 R y code mx ret cells' slots' pc' Ls rest Q)) : WP l Z a0 n0 R y code mx ret cells slots pc Ls (v1 :: v0 :: rest) H Q := callSG W [v0, v1] w1 w2 w3 w4 hy hds hlen hd hs hW hf hl hc hsl hp hc' hs' rfl k
theorem callV_2 {z : MethodName} {zc : ByteArray} {zm : Nat} {zr : Option FieldType} {ps : List FieldType} {i : Nat} {rm : Room} {pc' : Nat} {a : Addr} {fs : List (String × String × Value)} (kk W : Nat) {v0 v1 : Value} {rest : List Value} (w1 : (Cond.methodLink y.cls i z).before a0 Z = true) (wd : (Cond.declares z).before a0 Z = true) (ws : (Cond.selects z.cls z z).before a0 Z = true) (w2 : (Cond.instanceMethod z).before a0 Z = true) (w3 : (Cond.initialized z.cls).before a0 Z = true) (w4 : (Cond.code z zc zm zr).before a0 Z = true) (hy : z.cls ≠ "java/lang/invoke/MethodHandle" ∧ z.cls ≠ "java/lang/invoke/VarHandle") (hds : parseMethodDescriptor z.desc = some ⟨ps, zr⟩) (hlen : 2 = ps.length) (hd : decode code pc = .ok (.invokevirtual i, 3)) (hk : H[kk]? = some (a, .inr (z.cls, fs))) (hs : Ls.length = mx) (hW : (rest.map fun v => v.category).sum = W) (hf : rm.frames + 1 ≤ R.frames) (hl : W + (zm + 11) + rm.locals ≤ R.locals) (hc : cells + rm.cells ≤ R.cells) (hsl : slots + rm.slots ≤ R.slots) (hp : pc + 3 = pc') {cells' slots' : Nat} (hc' : cells + rm.cells = cells') (hs' : slots + rm.slots = slots') (k : Con l Z a0 n0 z zc zm zr rm #[.ref a, v0, v1] H (After l Z a0 n0 R y code mx ret cells' slots' pc' Ls rest Q)) : WP l Z a0 n0 R y code mx ret cells slots pc Ls (v1 :: v0 :: .ref a :: rest) H Q := callVG kk W [v0, v1] w1 wd ws w2 w3 w4 hy hds hlen hd hk hs hW hf hl hc hsl hp hc' hs' rfl k
theorem callI_3 {z : MethodName} {zc : ByteArray} {zm : Nat} {ps : List FieldType} {i : Nat} {rm : Room} {pc' : Nat} {a : Addr} (W : Nat) {v0 v1 v2 : Value} {rest : List Value} (hzn : z.name = "<init>") (w1 : (Cond.methodLink y.cls i z).before a0 Z = true) (w2 : (Cond.instanceMethod z).before a0 Z = true) (w3 : (Cond.initialized z.cls).before a0 Z = true) (w4 : (Cond.code z zc zm none).before a0 Z = true) (hy : z.cls ≠ "java/lang/invoke/MethodHandle" ∧ z.cls ≠ "java/lang/invoke/VarHandle") (hds : parseMethodDescriptor z.desc = some ⟨ps, none⟩) (hlen : 3 = ps.length) (hd : decode code pc = .ok (.invokespecial i, 3)) (hs : Ls.length = mx) (hW : (rest.map fun v => v.category).sum = W) (hf : rm.frames + 1 ≤ R.frames) (hl : W + (zm + 11) + rm.locals ≤ R.locals) (hc : cells + rm.cells ≤ R.cells) (hsl : slots + rm.slots ≤ R.slots) (hp : pc + 3 = pc') {cells' slots' : Nat} (hc' : cells + rm.cells = cells') (hs' : slots + rm.slots = slots') (k : Con l Z a0 n0 z zc zm none rm #[.ref a, v0, v1, v2] H (After l Z a0 n0 R y code mx ret cells' slots' pc' Ls rest Q)) : WP l Z a0 n0 R y code mx ret cells slots pc Ls (v2 :: v1 :: v0 :: .ref a :: rest) H Q := callIG W [v0, v1, v2] hzn w1 w2 w3 w4 hy hds hlen hd hs hW hf hl hc hsl hp hc' hs' rfl k
theorem callS_4 {z : MethodName} {zc : ByteArray} {zm : Nat} {zr : Option FieldType} {ps : List FieldType} {i : Nat} {rm : Room} {pc' : Nat} (W : Nat) {v0 v1 v2 v3 : Value} {rest : List Value} (w1 : (Cond.methodLink y.cls i z).before a0 Z = true) (w2 : (Cond.static z).before a0 Z = true) (w3 : (Cond.initialized z.cls).before a0 Z = true) (w4 : (Cond.code z zc zm zr).before a0 Z = true) (hy : z.cls ≠ "java/lang/invoke/MethodHandle" ∧ z.cls ≠ "java/lang/invoke/VarHandle") (hds : parseMethodDescriptor z.desc = some ⟨ps, zr⟩) (hlen : 4 = ps.length) (hd : decode code pc = .ok (.invokestatic i, 3)) (hs : Ls.length = mx) (hW : (rest.map fun v => v.category).sum = W) (hf : rm.frames + 1 ≤ R.frames) (hl : W + (zm + 11) + rm.locals ≤ R.locals) (hc : cells + rm.cells ≤ R.cells) (hsl : slots + rm.slots ≤ R.slots) (hp : pc + 3 = pc') {cells' slots' : Nat} (hc' : cells + rm.cells = cells') (hs' : slots + rm.slots = slots') (k : Con l Z a0 n0 z zc zm zr rm #[v0, v1, v2, v3] H (After l Z a0 n0 R y code mx ret cells' slots' pc' Ls rest Q)) : WP l Z a0 n0 R y code mx ret cells slots pc Ls (v3 :: v2 :: v1 :: v0 :: rest) H Q := callSG W [v0, v1, v2, v3] w1 w2 w3 w4 hy hds hlen hd hs hW hf hl hc hsl hp hc' hs' rfl k
end Jvm.Wp
namespace Jvm.Pilot.@@N@@
open Jvm Jvm.ClassFile Sem Op Lib Jvm.Free Jvm.Stand Jvm.LawKit Jvm.RoadKit Bundle Jvm.Pilot.@@N@@.Jvm.D
set_option maxHeartbeats 8000000
abbrev Hw (Z : State) (a0 : Array Value) : Prop := ∀ d ∈ tables_1, d.before a0 Z = true
theorem w0 {Z : State} {a0 : Array Value} (hw : Hw Z a0) : (Jvm.Cond.methodLink "com/example/planter/planter/ground/ReachedFactIsPinLaw" (7 : Nat) ({ cls := "com/example/planter/planter/ground/ReachedFactIsPinLaw", name := "make", desc := "(IIII)[I" } : Jvm.MethodName)).before a0 Z = true := hw _ (List.mem_of_getElem? (i := 0) rfl)
theorem w1 {Z : State} {a0 : Array Value} (hw : Hw Z a0) : (Jvm.Cond.static ({ cls := "com/example/planter/planter/ground/ReachedFactIsPinLaw", name := "make", desc := "(IIII)[I" } : Jvm.MethodName)).before a0 Z = true := hw _ (List.mem_of_getElem? (i := 1) rfl)
theorem w2 {Z : State} {a0 : Array Value} (hw : Hw Z a0) : (Jvm.Cond.initialized "com/example/planter/planter/ground/ReachedFactIsPinLaw").before a0 Z = true := hw _ (List.mem_of_getElem? (i := 2) rfl)
theorem w3 {Z : State} {a0 : Array Value} (hw : Hw Z a0) : (Jvm.Cond.code ({ cls := "com/example/planter/planter/ground/ReachedFactIsPinLaw", name := "make", desc := "(IIII)[I" } : Jvm.MethodName) method_2_code (4 : Nat) (Option.some (Jvm.ClassFile.FieldType.array Jvm.ClassFile.FieldType.int))).before a0 Z = true := hw _ (List.mem_of_getElem? (i := 3) rfl)
theorem w4 {Z : State} {a0 : Array Value} (hw : Hw Z a0) : (Jvm.Cond.arrayClass Jvm.ClassFile.FieldType.int).before a0 Z = true := hw _ (List.mem_of_getElem? (i := 4) rfl)
theorem w5 {Z : State} {a0 : Array Value} (hw : Hw Z a0) : (Jvm.Cond.classLink "com/example/planter/planter/ground/ReachedFactIsPinLaw" (13 : Nat) "com/example/planter/planter/ground/ReachedFact").before a0 Z = true := hw _ (List.mem_of_getElem? (i := 5) rfl)
theorem w6 {Z : State} {a0 : Array Value} (hw : Hw Z a0) : (Jvm.Cond.instantiable "com/example/planter/planter/ground/ReachedFact" (5 : Nat)).before a0 Z = true := hw _ (List.mem_of_getElem? (i := 6) rfl)
theorem w7 {Z : State} {a0 : Array Value} (hw : Hw Z a0) : (Jvm.Cond.initialized "com/example/planter/planter/ground/ReachedFact").before a0 Z = true := hw _ (List.mem_of_getElem? (i := 7) rfl)
theorem w8 {Z : State} {a0 : Array Value} (hw : Hw Z a0) : (Jvm.Cond.methodLink "com/example/planter/planter/ground/ReachedFactIsPinLaw" (15 : Nat) ({ cls := "com/example/planter/planter/ground/ReachedFact", name := "<init>", desc := "(Lcom/example/planter/planter/task/Atom;I[I)V" } : Jvm.MethodName)).before a0 Z = true := hw _ (List.mem_of_getElem? (i := 8) rfl)
theorem w9 {Z : State} {a0 : Array Value} (hw : Hw Z a0) : (Jvm.Cond.instanceMethod ({ cls := "com/example/planter/planter/ground/ReachedFact", name := "<init>", desc := "(Lcom/example/planter/planter/task/Atom;I[I)V" } : Jvm.MethodName)).before a0 Z = true := hw _ (List.mem_of_getElem? (i := 9) rfl)
theorem w10 {Z : State} {a0 : Array Value} (hw : Hw Z a0) : (Jvm.Cond.code ({ cls := "com/example/planter/planter/ground/ReachedFact", name := "<init>", desc := "(Lcom/example/planter/planter/task/Atom;I[I)V" } : Jvm.MethodName) prog_37_method_1_code (4 : Nat) (Option.none : Option Jvm.ClassFile.FieldType)).before a0 Z = true := hw _ (List.mem_of_getElem? (i := 10) rfl)
theorem w11 {Z : State} {a0 : Array Value} (hw : Hw Z a0) : (Jvm.Cond.methodLink "com/example/planter/planter/ground/ReachedFact" (1 : Nat) ({ cls := "java/lang/Object", name := "<init>", desc := "()V" } : Jvm.MethodName)).before a0 Z = true := hw _ (List.mem_of_getElem? (i := 11) rfl)
theorem w12 {Z : State} {a0 : Array Value} (hw : Hw Z a0) : (Jvm.Cond.instanceMethod ({ cls := "java/lang/Object", name := "<init>", desc := "()V" } : Jvm.MethodName)).before a0 Z = true := hw _ (List.mem_of_getElem? (i := 12) rfl)
theorem w13 {Z : State} {a0 : Array Value} (hw : Hw Z a0) : (Jvm.Cond.code ({ cls := "java/lang/Object", name := "<init>", desc := "()V" } : Jvm.MethodName) object_method_1_code (1 : Nat) (Option.none : Option Jvm.ClassFile.FieldType)).before a0 Z = true := hw _ (List.mem_of_getElem? (i := 13) rfl)
theorem w14 {Z : State} {a0 : Array Value} (hw : Hw Z a0) : (Jvm.Cond.fieldLink "com/example/planter/planter/ground/ReachedFact" (7 : Nat) "com/example/planter/planter/ground/ReachedFact" "number" "I").before a0 Z = true := hw _ (List.mem_of_getElem? (i := 14) rfl)
theorem w15 {Z : State} {a0 : Array Value} (hw : Hw Z a0) : (Jvm.Cond.lays "com/example/planter/planter/ground/ReachedFact" "com/example/planter/planter/ground/ReachedFact" "number" "I").before a0 Z = true := hw _ (List.mem_of_getElem? (i := 15) rfl)
theorem w16 {Z : State} {a0 : Array Value} (hw : Hw Z a0) : (Jvm.Cond.fieldLink "com/example/planter/planter/ground/ReachedFact" (13 : Nat) "com/example/planter/planter/ground/ReachedFact" "atom" "Lcom/example/planter/planter/task/Atom;").before a0 Z = true := hw _ (List.mem_of_getElem? (i := 16) rfl)
theorem w17 {Z : State} {a0 : Array Value} (hw : Hw Z a0) : (Jvm.Cond.laysFinal "com/example/planter/planter/ground/ReachedFact" "com/example/planter/planter/ground/ReachedFact" "atom" "Lcom/example/planter/planter/task/Atom;").before a0 Z = true := hw _ (List.mem_of_getElem? (i := 17) rfl)
theorem w18 {Z : State} {a0 : Array Value} (hw : Hw Z a0) : (Jvm.Cond.fieldLink "com/example/planter/planter/ground/ReachedFact" (17 : Nat) "com/example/planter/planter/ground/ReachedFact" "predicate" "I").before a0 Z = true := hw _ (List.mem_of_getElem? (i := 18) rfl)
theorem w19 {Z : State} {a0 : Array Value} (hw : Hw Z a0) : (Jvm.Cond.laysFinal "com/example/planter/planter/ground/ReachedFact" "com/example/planter/planter/ground/ReachedFact" "predicate" "I").before a0 Z = true := hw _ (List.mem_of_getElem? (i := 19) rfl)
theorem w20 {Z : State} {a0 : Array Value} (hw : Hw Z a0) : (Jvm.Cond.fieldLink "com/example/planter/planter/ground/ReachedFact" (20 : Nat) "com/example/planter/planter/ground/ReachedFact" "objects" "[I").before a0 Z = true := hw _ (List.mem_of_getElem? (i := 20) rfl)
theorem w21 {Z : State} {a0 : Array Value} (hw : Hw Z a0) : (Jvm.Cond.laysFinal "com/example/planter/planter/ground/ReachedFact" "com/example/planter/planter/ground/ReachedFact" "objects" "[I").before a0 Z = true := hw _ (List.mem_of_getElem? (i := 21) rfl)
theorem w22 {Z : State} {a0 : Array Value} (hw : Hw Z a0) : (Jvm.Cond.methodLink "com/example/planter/planter/ground/ReachedFact" (24 : Nat) ({ cls := "com/example/planter/planter/ground/FactTable", name := "hash", desc := "(I[I)I" } : Jvm.MethodName)).before a0 Z = true := hw _ (List.mem_of_getElem? (i := 22) rfl)
theorem w23 {Z : State} {a0 : Array Value} (hw : Hw Z a0) : (Jvm.Cond.static ({ cls := "com/example/planter/planter/ground/FactTable", name := "hash", desc := "(I[I)I" } : Jvm.MethodName)).before a0 Z = true := hw _ (List.mem_of_getElem? (i := 23) rfl)
theorem w24 {Z : State} {a0 : Array Value} (hw : Hw Z a0) : (Jvm.Cond.initialized "com/example/planter/planter/ground/FactTable").before a0 Z = true := hw _ (List.mem_of_getElem? (i := 24) rfl)
theorem w25 {Z : State} {a0 : Array Value} (hw : Hw Z a0) : (Jvm.Cond.code ({ cls := "com/example/planter/planter/ground/FactTable", name := "hash", desc := "(I[I)I" } : Jvm.MethodName) prog_21_method_2_code (7 : Nat) (Option.some Jvm.ClassFile.FieldType.int)).before a0 Z = true := hw _ (List.mem_of_getElem? (i := 25) rfl)
theorem w26 {Z : State} {a0 : Array Value} (hw : Hw Z a0) : (Jvm.Cond.constant "com/example/planter/planter/ground/FactTable" (22 : Nat) (-1640531527 : Int32)).before a0 Z = true := hw _ (List.mem_of_getElem? (i := 26) rfl)
theorem w27 {Z : State} {a0 : Array Value} (hw : Hw Z a0) : (Jvm.Cond.fieldLink "com/example/planter/planter/ground/ReachedFact" (30 : Nat) "com/example/planter/planter/ground/ReachedFact" "hash" "I").before a0 Z = true := hw _ (List.mem_of_getElem? (i := 27) rfl)
theorem w28 {Z : State} {a0 : Array Value} (hw : Hw Z a0) : (Jvm.Cond.laysFinal "com/example/planter/planter/ground/ReachedFact" "com/example/planter/planter/ground/ReachedFact" "hash" "I").before a0 Z = true := hw _ (List.mem_of_getElem? (i := 28) rfl)
theorem w29 {Z : State} {a0 : Array Value} (hw : Hw Z a0) : (Jvm.Cond.methodLink "com/example/planter/planter/ground/ReachedFactIsPinLaw" (18 : Nat) ({ cls := "com/example/planter/planter/ground/ReachedFact", name := "is", desc := "(I[I)Z" } : Jvm.MethodName)).before a0 Z = true := hw _ (List.mem_of_getElem? (i := 29) rfl)
theorem w30 {Z : State} {a0 : Array Value} (hw : Hw Z a0) : (Jvm.Cond.declares ({ cls := "com/example/planter/planter/ground/ReachedFact", name := "is", desc := "(I[I)Z" } : Jvm.MethodName)).before a0 Z = true := hw _ (List.mem_of_getElem? (i := 30) rfl)
theorem w31 {Z : State} {a0 : Array Value} (hw : Hw Z a0) : (Jvm.Cond.instanceMethod ({ cls := "com/example/planter/planter/ground/ReachedFact", name := "is", desc := "(I[I)Z" } : Jvm.MethodName)).before a0 Z = true := hw _ (List.mem_of_getElem? (i := 31) rfl)
theorem w32 {Z : State} {a0 : Array Value} (hw : Hw Z a0) : (Jvm.Cond.selects "com/example/planter/planter/ground/ReachedFact" ({ cls := "com/example/planter/planter/ground/ReachedFact", name := "is", desc := "(I[I)Z" } : Jvm.MethodName) ({ cls := "com/example/planter/planter/ground/ReachedFact", name := "is", desc := "(I[I)Z" } : Jvm.MethodName)).before a0 Z = true := hw _ (List.mem_of_getElem? (i := 32) rfl)
theorem w33 {Z : State} {a0 : Array Value} (hw : Hw Z a0) : (Jvm.Cond.code ({ cls := "com/example/planter/planter/ground/ReachedFact", name := "is", desc := "(I[I)Z" } : Jvm.MethodName) prog_37_method_6_code (4 : Nat) (Option.some Jvm.ClassFile.FieldType.boolean)).before a0 Z = true := hw _ (List.mem_of_getElem? (i := 33) rfl)
theorem d1_0 : decode method_2_code 0 = .ok (.iload_n 0, 1) := by decide +kernel
theorem d1_1 : decode method_2_code 1 = .ok (.ifCond .ne 7, 3) := by decide +kernel
theorem d1_4 : decode method_2_code 4 = .ok (.iconst 0, 1) := by decide +kernel
theorem d1_5 : decode method_2_code 5 = .ok (.newarray .int, 2) := by decide +kernel
theorem d1_7 : decode method_2_code 7 = .ok (.areturn, 1) := by decide +kernel
theorem d1_8 : decode method_2_code 8 = .ok (.iload_n 0, 1) := by decide +kernel
theorem d1_9 : decode method_2_code 9 = .ok (.iconst 1, 1) := by decide +kernel
theorem d1_10 : decode method_2_code 10 = .ok (.if_icmp .ne 11, 3) := by decide +kernel
theorem d1_13 : decode method_2_code 13 = .ok (.iconst 1, 1) := by decide +kernel
theorem d1_14 : decode method_2_code 14 = .ok (.newarray .int, 2) := by decide +kernel
theorem d1_16 : decode method_2_code 16 = .ok (.dup, 1) := by decide +kernel
theorem d1_17 : decode method_2_code 17 = .ok (.iconst 0, 1) := by decide +kernel
theorem d1_18 : decode method_2_code 18 = .ok (.iload_n 1, 1) := by decide +kernel
theorem d1_19 : decode method_2_code 19 = .ok (.iastore, 1) := by decide +kernel
theorem d1_20 : decode method_2_code 20 = .ok (.areturn, 1) := by decide +kernel
theorem d1_21 : decode method_2_code 21 = .ok (.iload_n 0, 1) := by decide +kernel
theorem d1_22 : decode method_2_code 22 = .ok (.iconst 2, 1) := by decide +kernel
theorem d1_23 : decode method_2_code 23 = .ok (.if_icmp .ne 15, 3) := by decide +kernel
theorem d1_26 : decode method_2_code 26 = .ok (.iconst 2, 1) := by decide +kernel
theorem d1_27 : decode method_2_code 27 = .ok (.newarray .int, 2) := by decide +kernel
theorem d1_29 : decode method_2_code 29 = .ok (.dup, 1) := by decide +kernel
theorem d1_30 : decode method_2_code 30 = .ok (.iconst 0, 1) := by decide +kernel
theorem d1_31 : decode method_2_code 31 = .ok (.iload_n 1, 1) := by decide +kernel
theorem d1_32 : decode method_2_code 32 = .ok (.iastore, 1) := by decide +kernel
theorem d1_33 : decode method_2_code 33 = .ok (.dup, 1) := by decide +kernel
theorem d1_34 : decode method_2_code 34 = .ok (.iconst 1, 1) := by decide +kernel
theorem d1_35 : decode method_2_code 35 = .ok (.iload_n 2, 1) := by decide +kernel
theorem d1_36 : decode method_2_code 36 = .ok (.iastore, 1) := by decide +kernel
theorem d1_37 : decode method_2_code 37 = .ok (.areturn, 1) := by decide +kernel
theorem d1_38 : decode method_2_code 38 = .ok (.iconst 3, 1) := by decide +kernel
theorem d1_39 : decode method_2_code 39 = .ok (.newarray .int, 2) := by decide +kernel
theorem d1_41 : decode method_2_code 41 = .ok (.dup, 1) := by decide +kernel
theorem d1_42 : decode method_2_code 42 = .ok (.iconst 0, 1) := by decide +kernel
theorem d1_43 : decode method_2_code 43 = .ok (.iload_n 1, 1) := by decide +kernel
theorem d1_44 : decode method_2_code 44 = .ok (.iastore, 1) := by decide +kernel
theorem d1_45 : decode method_2_code 45 = .ok (.dup, 1) := by decide +kernel
theorem d1_46 : decode method_2_code 46 = .ok (.iconst 1, 1) := by decide +kernel
theorem d1_47 : decode method_2_code 47 = .ok (.iload_n 2, 1) := by decide +kernel
theorem d1_48 : decode method_2_code 48 = .ok (.iastore, 1) := by decide +kernel
theorem d1_49 : decode method_2_code 49 = .ok (.dup, 1) := by decide +kernel
theorem d1_50 : decode method_2_code 50 = .ok (.iconst 2, 1) := by decide +kernel
theorem d1_51 : decode method_2_code 51 = .ok (.iload_n 3, 1) := by decide +kernel
theorem d1_52 : decode method_2_code 52 = .ok (.iastore, 1) := by decide +kernel
theorem d1_53 : decode method_2_code 53 = .ok (.areturn, 1) := by decide +kernel
theorem d2_0 : decode prog_37_method_1_code 0 = .ok (.aload_n 0, 1) := by decide +kernel
theorem d2_1 : decode prog_37_method_1_code 1 = .ok (.invokespecial 1, 3) := by decide +kernel
theorem d2_4 : decode prog_37_method_1_code 4 = .ok (.aload_n 0, 1) := by decide +kernel
theorem d2_5 : decode prog_37_method_1_code 5 = .ok (.iconst (-1), 1) := by decide +kernel
theorem d2_6 : decode prog_37_method_1_code 6 = .ok (.putfield 7, 3) := by decide +kernel
theorem d2_9 : decode prog_37_method_1_code 9 = .ok (.aload_n 0, 1) := by decide +kernel
theorem d2_10 : decode prog_37_method_1_code 10 = .ok (.aload_n 1, 1) := by decide +kernel
theorem d2_11 : decode prog_37_method_1_code 11 = .ok (.putfield 13, 3) := by decide +kernel
theorem d2_14 : decode prog_37_method_1_code 14 = .ok (.aload_n 0, 1) := by decide +kernel
theorem d2_15 : decode prog_37_method_1_code 15 = .ok (.iload_n 2, 1) := by decide +kernel
theorem d2_16 : decode prog_37_method_1_code 16 = .ok (.putfield 17, 3) := by decide +kernel
theorem d2_19 : decode prog_37_method_1_code 19 = .ok (.aload_n 0, 1) := by decide +kernel
theorem d2_20 : decode prog_37_method_1_code 20 = .ok (.aload_n 3, 1) := by decide +kernel
theorem d2_21 : decode prog_37_method_1_code 21 = .ok (.putfield 20, 3) := by decide +kernel
theorem d2_24 : decode prog_37_method_1_code 24 = .ok (.aload_n 0, 1) := by decide +kernel
theorem d2_25 : decode prog_37_method_1_code 25 = .ok (.iload_n 2, 1) := by decide +kernel
theorem d2_26 : decode prog_37_method_1_code 26 = .ok (.aload_n 3, 1) := by decide +kernel
theorem d2_27 : decode prog_37_method_1_code 27 = .ok (.invokestatic 24, 3) := by decide +kernel
theorem d2_30 : decode prog_37_method_1_code 30 = .ok (.putfield 30, 3) := by decide +kernel
theorem d2_33 : decode prog_37_method_1_code 33 = .ok (.return_, 1) := by decide +kernel
theorem d3_0 : decode prog_21_method_2_code 0 = .ok (.iload_n 0, 1) := by decide +kernel
theorem d3_1 : decode prog_21_method_2_code 1 = .ok (.istore_n 2, 1) := by decide +kernel
theorem d3_2 : decode prog_21_method_2_code 2 = .ok (.aload_n 1, 1) := by decide +kernel
theorem d3_3 : decode prog_21_method_2_code 3 = .ok (.astore_n 3, 1) := by decide +kernel
theorem d3_4 : decode prog_21_method_2_code 4 = .ok (.aload_n 3, 1) := by decide +kernel
theorem d3_5 : decode prog_21_method_2_code 5 = .ok (.arraylength, 1) := by decide +kernel
theorem d3_6 : decode prog_21_method_2_code 6 = .ok (.istore 4, 2) := by decide +kernel
theorem d3_8 : decode prog_21_method_2_code 8 = .ok (.iconst 0, 1) := by decide +kernel
theorem d3_9 : decode prog_21_method_2_code 9 = .ok (.istore 5, 2) := by decide +kernel
theorem d3_11 : decode prog_21_method_2_code 11 = .ok (.iload 5, 2) := by decide +kernel
theorem d3_13 : decode prog_21_method_2_code 13 = .ok (.iload 4, 2) := by decide +kernel
theorem d3_15 : decode prog_21_method_2_code 15 = .ok (.if_icmp .ge 23, 3) := by decide +kernel
theorem d3_18 : decode prog_21_method_2_code 18 = .ok (.aload_n 3, 1) := by decide +kernel
theorem d3_19 : decode prog_21_method_2_code 19 = .ok (.iload 5, 2) := by decide +kernel
theorem d3_21 : decode prog_21_method_2_code 21 = .ok (.iaload, 1) := by decide +kernel
theorem d3_22 : decode prog_21_method_2_code 22 = .ok (.istore 6, 2) := by decide +kernel
theorem d3_24 : decode prog_21_method_2_code 24 = .ok (.iload_n 2, 1) := by decide +kernel
theorem d3_25 : decode prog_21_method_2_code 25 = .ok (.ldc 22, 2) := by decide +kernel
theorem d3_27 : decode prog_21_method_2_code 27 = .ok (.imul, 1) := by decide +kernel
theorem d3_28 : decode prog_21_method_2_code 28 = .ok (.iload 6, 2) := by decide +kernel
theorem d3_30 : decode prog_21_method_2_code 30 = .ok (.iadd, 1) := by decide +kernel
theorem d3_31 : decode prog_21_method_2_code 31 = .ok (.istore_n 2, 1) := by decide +kernel
theorem d3_32 : decode prog_21_method_2_code 32 = .ok (.iinc 5 1, 3) := by decide +kernel
theorem d3_35 : decode prog_21_method_2_code 35 = .ok (.goto (-24), 3) := by decide +kernel
theorem d3_38 : decode prog_21_method_2_code 38 = .ok (.iload_n 2, 1) := by decide +kernel
theorem d3_39 : decode prog_21_method_2_code 39 = .ok (.ldc 22, 2) := by decide +kernel
theorem d3_41 : decode prog_21_method_2_code 41 = .ok (.imul, 1) := by decide +kernel
theorem d3_42 : decode prog_21_method_2_code 42 = .ok (.istore_n 2, 1) := by decide +kernel
theorem d3_43 : decode prog_21_method_2_code 43 = .ok (.iload_n 2, 1) := by decide +kernel
theorem d3_44 : decode prog_21_method_2_code 44 = .ok (.iload_n 2, 1) := by decide +kernel
theorem d3_45 : decode prog_21_method_2_code 45 = .ok (.bipush 16, 2) := by decide +kernel
theorem d3_47 : decode prog_21_method_2_code 47 = .ok (.iushr, 1) := by decide +kernel
theorem d3_48 : decode prog_21_method_2_code 48 = .ok (.ixor, 1) := by decide +kernel
theorem d3_49 : decode prog_21_method_2_code 49 = .ok (.ireturn, 1) := by decide +kernel
theorem d4_0 : decode prog_37_method_6_code 0 = .ok (.aload_n 0, 1) := by decide +kernel
theorem d4_1 : decode prog_37_method_6_code 1 = .ok (.getfield 17, 3) := by decide +kernel
theorem d4_4 : decode prog_37_method_6_code 4 = .ok (.iload_n 1, 1) := by decide +kernel
theorem d4_5 : decode prog_37_method_6_code 5 = .ok (.if_icmp .ne 13, 3) := by decide +kernel
theorem d4_8 : decode prog_37_method_6_code 8 = .ok (.aload_n 0, 1) := by decide +kernel
theorem d4_9 : decode prog_37_method_6_code 9 = .ok (.getfield 20, 3) := by decide +kernel
theorem d4_12 : decode prog_37_method_6_code 12 = .ok (.arraylength, 1) := by decide +kernel
theorem d4_13 : decode prog_37_method_6_code 13 = .ok (.aload_n 2, 1) := by decide +kernel
theorem d4_14 : decode prog_37_method_6_code 14 = .ok (.arraylength, 1) := by decide +kernel
theorem d4_15 : decode prog_37_method_6_code 15 = .ok (.if_icmp .eq 5, 3) := by decide +kernel
theorem d4_18 : decode prog_37_method_6_code 18 = .ok (.iconst 0, 1) := by decide +kernel
theorem d4_19 : decode prog_37_method_6_code 19 = .ok (.ireturn, 1) := by decide +kernel
theorem d4_20 : decode prog_37_method_6_code 20 = .ok (.iconst 0, 1) := by decide +kernel
theorem d4_21 : decode prog_37_method_6_code 21 = .ok (.istore_n 3, 1) := by decide +kernel
theorem d4_22 : decode prog_37_method_6_code 22 = .ok (.iload_n 3, 1) := by decide +kernel
theorem d4_23 : decode prog_37_method_6_code 23 = .ok (.aload_n 2, 1) := by decide +kernel
theorem d4_24 : decode prog_37_method_6_code 24 = .ok (.arraylength, 1) := by decide +kernel
theorem d4_25 : decode prog_37_method_6_code 25 = .ok (.if_icmp .ge 23, 3) := by decide +kernel
theorem d4_28 : decode prog_37_method_6_code 28 = .ok (.aload_n 0, 1) := by decide +kernel
theorem d4_29 : decode prog_37_method_6_code 29 = .ok (.getfield 20, 3) := by decide +kernel
theorem d4_32 : decode prog_37_method_6_code 32 = .ok (.iload_n 3, 1) := by decide +kernel
theorem d4_33 : decode prog_37_method_6_code 33 = .ok (.iaload, 1) := by decide +kernel
theorem d4_34 : decode prog_37_method_6_code 34 = .ok (.aload_n 2, 1) := by decide +kernel
theorem d4_35 : decode prog_37_method_6_code 35 = .ok (.iload_n 3, 1) := by decide +kernel
theorem d4_36 : decode prog_37_method_6_code 36 = .ok (.iaload, 1) := by decide +kernel
theorem d4_37 : decode prog_37_method_6_code 37 = .ok (.if_icmp .eq 5, 3) := by decide +kernel
theorem d4_40 : decode prog_37_method_6_code 40 = .ok (.iconst 0, 1) := by decide +kernel
theorem d4_41 : decode prog_37_method_6_code 41 = .ok (.ireturn, 1) := by decide +kernel
theorem d4_42 : decode prog_37_method_6_code 42 = .ok (.iinc 3 1, 3) := by decide +kernel
theorem d4_45 : decode prog_37_method_6_code 45 = .ok (.goto (-23), 3) := by decide +kernel
theorem d4_48 : decode prog_37_method_6_code 48 = .ok (.iconst 1, 1) := by decide +kernel
theorem d4_49 : decode prog_37_method_6_code 49 = .ok (.ireturn, 1) := by decide +kernel
theorem pd0 : parseMethodDescriptor "(I[I)I" = some ⟨[.int, (.array .int)], some .int⟩ := by decide +kernel
theorem pd1 : parseMethodDescriptor "(IIII)[I" = some ⟨[.int, .int, .int, .int], some (.array .int)⟩ := by decide +kernel
theorem pd2 : parseMethodDescriptor "(Lcom/example/planter/planter/task/Atom;I[I)V" = some ⟨[(.object "com/example/planter/planter/task/Atom"), .int, (.array .int)], none⟩ := by decide +kernel
theorem pd3 : parseMethodDescriptor "(I[I)Z" = some ⟨[.int, (.array .int)], some .boolean⟩ := by decide +kernel
abbrev nm0 : MethodName := x
abbrev rm0 : Room := room_1
abbrev C0 (l : Launch) (Z : State) (a0 : Array Value) (n0 : Nat) := Wp.Con l Z a0 n0 nm0 code maxLocals ret rm0
abbrev W0 (l : Launch) (Z : State) (a0 : Array Value) (n0 : Nat) := Wp.WP l Z a0 n0 rm0 nm0 code maxLocals ret
theorem pn0 : plainFor nm0 = true := by first | exact plainFor_of_name (by first | (simp [plainName, overriddenIn, nm0, x]; done) | decide +kernel) | decide +kernel
theorem ef0 (m : MethodId) (x0 : Int32) (x1 : Int32) (x2 : Int32) (x3 : Int32) (x4 : Int32) (x5 : Int32) : entryFrame m #[(.int x0), (.int x1), (.int x2), (.int x3), (.int x4), (.int x5)] maxLocals = mkF m 0 ⟨[.val (.int x0), .val (.int x1), .val (.int x2), .val (.int x3), .val (.int x4), .val (.int x5), .unset, .unset, .unset, .unset, .unset, .unset, .unset, .unset, .unset, .unset, .unset]⟩ [] := by first | exact (Wp.efG m [(.int x0), (.int x1), (.int x2), (.int x3), (.int x4), (.int x5)] maxLocals).trans rfl | (simp [entryFrame, mkF, argsToLocals, Value.category, maxLocals]; done)
abbrev nm1 : MethodName := ⟨"com/example/planter/planter/ground/ReachedFactIsPinLaw", "make", "(IIII)[I"⟩
abbrev rm1 : Room := { frames := 0, cells := 1, slots := 3, locals := 0 }
abbrev C1 (l : Launch) (Z : State) (a0 : Array Value) (n0 : Nat) := Wp.Con l Z a0 n0 nm1 method_2_code 4 (some (.array .int)) rm1
abbrev W1 (l : Launch) (Z : State) (a0 : Array Value) (n0 : Nat) := Wp.WP l Z a0 n0 rm1 nm1 method_2_code 4 (some (.array .int))
theorem pn1 : plainFor nm1 = true := by first | exact plainFor_of_name (by first | (simp [plainName, overriddenIn, nm1, x]; done) | decide +kernel) | decide +kernel
theorem ef1 (m : MethodId) (x0 : Int32) (x1 : Int32) (x2 : Int32) (x3 : Int32) : entryFrame m #[(.int x0), (.int x1), (.int x2), (.int x3)] 4 = mkF m 0 ⟨[.val (.int x0), .val (.int x1), .val (.int x2), .val (.int x3)]⟩ [] := by first | exact (Wp.efG m [(.int x0), (.int x1), (.int x2), (.int x3)] 4).trans rfl | (simp [entryFrame, mkF, argsToLocals, Value.category]; done)
abbrev nm2 : MethodName := ⟨"com/example/planter/planter/ground/ReachedFact", "<init>", "(Lcom/example/planter/planter/task/Atom;I[I)V"⟩
abbrev rm2 : Room := { frames := 1, cells := 0, slots := 0, locals := 19 }
abbrev C2 (l : Launch) (Z : State) (a0 : Array Value) (n0 : Nat) := Wp.Con l Z a0 n0 nm2 prog_37_method_1_code 4 none rm2
abbrev W2 (l : Launch) (Z : State) (a0 : Array Value) (n0 : Nat) := Wp.WP l Z a0 n0 rm2 nm2 prog_37_method_1_code 4 none
theorem pn2 : plainFor nm2 = true := by first | exact plainFor_of_name (by first | (simp [plainName, overriddenIn, nm2, x]; done) | decide +kernel) | decide +kernel
theorem ef2 (m : MethodId) (r : Addr) (x1 : Int32) (x2 : Addr) : entryFrame m #[(.ref r), .null, (.int x1), (.ref x2)] 4 = mkF m 0 ⟨[.val (.ref r), .val .null, .val (.int x1), .val (.ref x2)]⟩ [] := by first | exact (Wp.efG m [(.ref r), .null, (.int x1), (.ref x2)] 4).trans rfl | (simp [entryFrame, mkF, argsToLocals, Value.category]; done)
abbrev nm3 : MethodName := ⟨"com/example/planter/planter/ground/FactTable", "hash", "(I[I)I"⟩
abbrev rm3 : Room := { frames := 0, cells := 0, slots := 0, locals := 0 }
abbrev C3 (l : Launch) (Z : State) (a0 : Array Value) (n0 : Nat) := Wp.Con l Z a0 n0 nm3 prog_21_method_2_code 7 (some .int) rm3
abbrev W3 (l : Launch) (Z : State) (a0 : Array Value) (n0 : Nat) := Wp.WP l Z a0 n0 rm3 nm3 prog_21_method_2_code 7 (some .int)
theorem pn3 : plainFor nm3 = true := by first | exact plainFor_of_name (by first | (simp [plainName, overriddenIn, nm3, x]; done) | decide +kernel) | decide +kernel
theorem ef3 (m : MethodId) (x0 : Int32) (x1 : Addr) : entryFrame m #[(.int x0), (.ref x1)] 7 = mkF m 0 ⟨[.val (.int x0), .val (.ref x1), .unset, .unset, .unset, .unset, .unset]⟩ [] := by first | exact (Wp.efG m [(.int x0), (.ref x1)] 7).trans rfl | (simp [entryFrame, mkF, argsToLocals, Value.category]; done)
abbrev nm4 : MethodName := ⟨"com/example/planter/planter/ground/ReachedFact", "is", "(I[I)Z"⟩
abbrev rm4 : Room := { frames := 0, cells := 0, slots := 0, locals := 0 }
abbrev C4 (l : Launch) (Z : State) (a0 : Array Value) (n0 : Nat) := Wp.Con l Z a0 n0 nm4 prog_37_method_6_code 4 (some .boolean) rm4
abbrev W4 (l : Launch) (Z : State) (a0 : Array Value) (n0 : Nat) := Wp.WP l Z a0 n0 rm4 nm4 prog_37_method_6_code 4 (some .boolean)
theorem pn4 : plainFor nm4 = true := by first | exact plainFor_of_name (by first | (simp [plainName, overriddenIn, nm4, x]; done) | decide +kernel) | decide +kernel
theorem ef4 (m : MethodId) (r : Addr) (x0 : Int32) (x1 : Addr) : entryFrame m #[(.ref r), (.int x0), (.ref x1)] 4 = mkF m 0 ⟨[.val (.ref r), .val (.int x0), .val (.ref x1), .unset]⟩ [] := by first | exact (Wp.efG m [(.ref r), (.int x0), (.ref x1)] 4).trans rfl | (simp [entryFrame, mkF, argsToLocals, Value.category]; done)
def fs_ReachedFact : List (String × String × Value) := [("number", "I", .int 0), ("atom", "Lcom/example/planter/planter/task/Atom;", .null), ("predicate", "I", .int 0), ("objects", "[I", .null), ("hash", "I", .int 0)]
theorem fs_ReachedFact_ok {Z : State} {a0 : Array Value} (hw : Hw Z a0) : ∀ x ∈ fs_ReachedFact, Laid Z a0 "com/example/planter/planter/ground/ReachedFact" "com/example/planter/planter/ground/ReachedFact" x.1 x.2.1 ∧ ∃ t, parseFieldDescriptor x.2.1 = some t ∧ defaultValue t = x.2.2 := by
  intro x hx
  simp only [fs_ReachedFact, List.mem_cons, List.not_mem_nil, or_false] at hx
  rcases hx with rfl | rfl | rfl | rfl | rfl
  · exact ⟨Or.inl (w15 hw), .int, by decide, rfl⟩
  · exact ⟨Or.inr (w17 hw), (.object "com/example/planter/planter/task/Atom"), by decide, rfl⟩
  · exact ⟨Or.inr (w19 hw), .int, by decide, rfl⟩
  · exact ⟨Or.inr (w21 hw), (.array .int), by decide, rfl⟩
  · exact ⟨Or.inr (w28 hw), .int, by decide, rfl⟩
set_option maxRecDepth 65536
def own_b (p : Bool) : Int32 := if p then 1 else 0
theorem own_b1 {p : Bool} (h : p = true) : (some (Value.int (1 &&& 1)) : Option Value) = some (.int (own_b p)) := by subst h; rfl
theorem own_b0 {p : Bool} (h : p = false) : (some (Value.int (0 &&& 1)) : Option Value) = some (.int (own_b p)) := by subst h; rfl

theorem own_inc {i : Int32} {k : Nat} (h : i.toInt = (k : Int)) (hk : k < 2147483647) : (i + 1).toInt = ((k + 1 : Nat) : Int) := by
  have h1 := c_iadd i 1
  have h2 := rng32 (i + 1)
  have h3 : (1 : Int32).toInt = 1 := rfl
  omega

def own_us16 (h : Int32) : Int32 := h ^^^ (h.toUInt32 >>> ((16 : Int32) &&& 31).toUInt32).toInt32
def own_hash (p : Int32) (xs : List Int32) : Int32 := own_us16 (xs.foldl (fun h v => h * (-1640531527) + v) p * (-1640531527))
theorem own_us16_us16 (h : Int32) : own_us16 (own_us16 h) = h := by
  apply Int32.toBitVec_inj.mp
  have e : ∀ x : Int32, (own_us16 x).toBitVec = x.toBitVec ^^^ x.toBitVec >>> 16 := fun x => rfl
  rw [e, e]
  apply BitVec.eq_of_getLsbD_eq
  intro i hi
  simp only [BitVec.getLsbD_xor, BitVec.getLsbD_ushiftRight]
  have h3 : h.toBitVec.getLsbD (16 + (16 + i)) = false := BitVec.getLsbD_of_ge _ _ (by omega)
  rw [h3]
  cases h.toBitVec.getLsbD i <;> cases h.toBitVec.getLsbD (16 + i) <;> rfl

def own_mk (n a b c : Int32) : List Int32 := if n = 0 then [] else if n = 1 then [a] else if n = 2 then [a, b] else [a, b, c]
theorem own_mklen (n a b c : Int32) : (own_mk n a b c).length < 1000 := by
  unfold own_mk; split <;> (try split) <;> (try split) <;> simp
theorem con1 {l : Launch} {Z : State} {a0 : Array Value} {n0 : Nat} (hw : Hw Z a0) (n a b c : Int32) (H : Wp.MH) :
    C1 l Z a0 n0 #[.int n, .int a, .int b, .int c] H (fun v H' => ∃ r : Addr, v = some (.ref r) ∧ H' = (r, .inl (.int, (own_mk n a b c).map Value.int)) :: H) := by
  refine Wp.Con.intro pn1 (fun m => ef1 m n a b c) ?_
  refine Wp.iloadN (pc' := 1) d1_0 rfl rfl ?_
  refine Wp.if_ne (pt := 8) (pf := 4) d1_1 (by decide) rfl (fun hc1 => ?_) (fun hc1 => ?_)
  · refine Wp.iloadN (pc' := 9) d1_8 rfl rfl ?_
    refine Wp.iconst (1) (pc' := 10) d1_9 rfl rfl ?_
    refine Wp.icmp_ne (pt := 21) (pf := 13) d1_10 (by decide) rfl (fun hc10 => ?_) (fun hc10 => ?_)
    · refine Wp.iloadN (pc' := 22) d1_21 rfl rfl ?_
      refine Wp.iconst (2) (pc' := 23) d1_22 rfl rfl ?_
      refine Wp.icmp_ne (pt := 38) (pf := 26) d1_23 (by decide) rfl (fun hc23 => ?_) (fun hc23 => ?_)
      · refine Wp.iconst (3) (pc' := 39) d1_38 rfl rfl ?_
        refine Wp.newarray 3 3 [.int 0, .int 0, .int 0] (pc' := 41) (cells' := 1) (slots' := 3) (ty := .int) (w4 hw) d1_39 rfl (by decide) (by decide) (by decide) (by decide) rfl rfl rfl rfl rfl (fun a39 => ?_)
        refine Wp.dup (pc' := 42) d1_41 rfl rfl ?_
        refine Wp.iconst (0) (pc' := 43) d1_42 rfl rfl ?_
        refine Wp.iloadN (pc' := 44) d1_43 rfl rfl ?_
        refine Wp.iastore_0 0 (pc' := 45) d1_44 rfl (by simp) rfl ?_
        try simp only [List.set_cons_zero, List.set_cons_succ]
        refine Wp.dup (pc' := 46) d1_45 rfl rfl ?_
        refine Wp.iconst (1) (pc' := 47) d1_46 rfl rfl ?_
        refine Wp.iloadN (pc' := 48) d1_47 rfl rfl ?_
        refine Wp.iastore_0 1 (pc' := 49) d1_48 rfl (by simp) rfl ?_
        try simp only [List.set_cons_zero, List.set_cons_succ]
        refine Wp.dup (pc' := 50) d1_49 rfl rfl ?_
        refine Wp.iconst (2) (pc' := 51) d1_50 rfl rfl ?_
        refine Wp.iloadN (pc' := 52) d1_51 rfl rfl ?_
        refine Wp.iastore_0 2 (pc' := 53) d1_52 rfl (by simp) rfl ?_
        try simp only [List.set_cons_zero, List.set_cons_succ]
        refine Wp.areturn rfl rfl rfl rfl d1_53 ?_
        refine ⟨_, rfl, ?_⟩
        unfold own_mk
        simp only [hc1, hc10, hc23, if_true, if_false]
        rfl
      · refine Wp.iconst (2) (pc' := 27) d1_26 rfl rfl ?_
        refine Wp.newarray 2 3 [.int 0, .int 0] (pc' := 29) (cells' := 1) (slots' := 3) (ty := .int) (w4 hw) d1_27 rfl (by decide) (by decide) (by decide) (by decide) rfl rfl rfl rfl rfl (fun a27 => ?_)
        refine Wp.dup (pc' := 30) d1_29 rfl rfl ?_
        refine Wp.iconst (0) (pc' := 31) d1_30 rfl rfl ?_
        refine Wp.iloadN (pc' := 32) d1_31 rfl rfl ?_
        refine Wp.iastore_0 0 (pc' := 33) d1_32 rfl (by simp) rfl ?_
        try simp only [List.set_cons_zero, List.set_cons_succ]
        refine Wp.dup (pc' := 34) d1_33 rfl rfl ?_
        refine Wp.iconst (1) (pc' := 35) d1_34 rfl rfl ?_
        refine Wp.iloadN (pc' := 36) d1_35 rfl rfl ?_
        refine Wp.iastore_0 1 (pc' := 37) d1_36 rfl (by simp) rfl ?_
        try simp only [List.set_cons_zero, List.set_cons_succ]
        refine Wp.areturn rfl rfl rfl rfl d1_37 ?_
        refine ⟨_, rfl, ?_⟩
        unfold own_mk
        simp only [hc1, hc10, hc23, if_true, if_false]
        rfl
    · refine Wp.iconst (1) (pc' := 14) d1_13 rfl rfl ?_
      refine Wp.newarray 1 3 [.int 0] (pc' := 16) (cells' := 1) (slots' := 3) (ty := .int) (w4 hw) d1_14 rfl (by decide) (by decide) (by decide) (by decide) rfl rfl rfl rfl rfl (fun a14 => ?_)
      refine Wp.dup (pc' := 17) d1_16 rfl rfl ?_
      refine Wp.iconst (0) (pc' := 18) d1_17 rfl rfl ?_
      refine Wp.iloadN (pc' := 19) d1_18 rfl rfl ?_
      refine Wp.iastore_0 0 (pc' := 20) d1_19 rfl (by simp) rfl ?_
      try simp only [List.set_cons_zero, List.set_cons_succ]
      refine Wp.areturn rfl rfl rfl rfl d1_20 ?_
      refine ⟨_, rfl, ?_⟩
      unfold own_mk
      simp only [hc1, hc10, if_true, if_false]
      rfl
  · refine Wp.iconst (0) (pc' := 5) d1_4 rfl rfl ?_
    refine Wp.newarray 0 3 [] (pc' := 7) (cells' := 1) (slots' := 3) (ty := .int) (w4 hw) d1_5 rfl (by decide) (by decide) (by decide) (by decide) rfl rfl rfl rfl rfl (fun a5 => ?_)
    refine Wp.areturn rfl rfl rfl rfl d1_7 ?_
    refine ⟨_, rfl, ?_⟩
    unfold own_mk
    simp only [hc1, if_true, if_false]
    rfl
theorem con3 {l : Launch} {Z : State} {a0 : Array Value} {n0 : Nat} (hw : Hw Z a0) (p : Int32) (xs : List Int32) (hlen : xs.length < 1000) (a : Addr) (H : Wp.MH) (k : Nat) (hk : H[k]? = some (a, .inl (.int, xs.map Value.int))) :
    C3 l Z a0 n0 #[.int p, .ref a] H (fun v H' => v = some (.int (own_hash p xs)) ∧ H' = H) := by
  refine Wp.Con.intro pn3 (fun m => ef3 m p a) ?_
  generalize hR : own_hash p xs = r
  generalize hQ : (fun (v : Option Value) (H' : Wp.MH) => v = some (.int r) ∧ H' = H) = Q
  have hn : (Int32.ofNat (xs.map Value.int).length).toInt = xs.length := by
    rw [List.length_map]; exact Int32.toInt_ofNat_of_lt (by omega)
  generalize hN : Int32.ofNat (xs.map Value.int).length = n at hn
  have K : ∀ (ys zs : List Int32) (h i : Int32) (o : Slot), xs = zs ++ ys → i.toInt = zs.length → Wp.ok1 o = true → own_us16 (ys.foldl (fun h v => h * (-1640531527) + v) h * (-1640531527)) = r →
      W3 l Z a0 n0 0 0 11 [.val (.int p), .val (.ref a), .val (.int h), .val (.ref a), .val (.int n), .val (.int i), o] [] H Q := by
    intro ys
    induction ys with
    | nil =>
      intro zs h i o hx hi ho hr
      have hl : xs.length = zs.length := by rw [hx]; simp
      refine Wp.iload (pc' := 13) d3_11 rfl rfl ?_
      refine Wp.iload (pc' := 15) d3_13 rfl rfl ?_
      refine Wp.icmp_ge (pt := 38) (pf := 18) d3_15 (by decide) rfl (fun hc15 => ?_) (fun hc15 => ?_)
      · refine Wp.iloadN (pc' := 39) d3_38 rfl rfl ?_
        refine Wp.ldcI (pc' := 41) (w26 hw) d3_39 rfl ?_
        refine Wp.imul (pc' := 42) d3_41 rfl ?_
        refine Wp.istoreN_2 (pc' := 43) d3_42 rfl rfl ?_
        refine Wp.iloadN (pc' := 44) d3_43 rfl rfl ?_
        refine Wp.iloadN (pc' := 45) d3_44 rfl rfl ?_
        refine Wp.bipush (16) (pc' := 47) d3_45 rfl rfl ?_
        refine Wp.iushr (pc' := 48) d3_47 rfl ?_
        refine Wp.ixor (pc' := 49) d3_48 rfl ?_
        refine Wp.ireturn rfl d3_49 ?_
        subst hQ; exact ⟨by rw [← hr]; rfl, rfl⟩
      · exfalso; omega
    | cons y ys ih =>
      intro zs h i o hx hi ho hr
      have hl : xs.length = zs.length + (ys.length + 1) := by rw [hx]; simp
      refine Wp.iload (pc' := 13) d3_11 rfl rfl ?_
      refine Wp.iload (pc' := 15) d3_13 rfl rfl ?_
      refine Wp.icmp_ge (pt := 38) (pf := 18) d3_15 (by decide) rfl (fun hc15 => ?_) (fun hc15 => ?_)
      · exfalso; omega
      · refine Wp.aloadN (pc' := 19) d3_18 rfl rfl rfl ?_
        refine Wp.iload (pc' := 21) d3_19 rfl rfl ?_
        refine Wp.iaload k zs.length (v := .int y) (pc' := 22) d3_21 hk hi (by rw [hx]; simp) rfl ?_
        refine Wp.istore_6 (pc' := 24) d3_22 ho rfl ?_
        refine Wp.iloadN (pc' := 25) d3_24 rfl rfl ?_
        refine Wp.ldcI (pc' := 27) (w26 hw) d3_25 rfl ?_
        refine Wp.imul (pc' := 28) d3_27 rfl ?_
        refine Wp.iload (pc' := 30) d3_28 rfl rfl ?_
        refine Wp.iadd (pc' := 31) d3_30 rfl ?_
        refine Wp.istoreN_2 (pc' := 32) d3_31 rfl rfl ?_
        refine Wp.iinc_5 (1) (pc' := 35) d3_32 rfl rfl ?_
        refine Wp.goto (pc' := 11) d3_35 (by decide) ?_
        exact ih (zs ++ [y]) _ _ _ (by rw [hx]; simp) (by rw [own_inc hi (by omega)]; simp) rfl hr
  refine Wp.iloadN (pc' := 1) d3_0 rfl rfl ?_
  refine Wp.istoreN_2 (pc' := 2) d3_1 rfl rfl ?_
  refine Wp.aloadN (pc' := 3) d3_2 rfl rfl rfl ?_
  refine Wp.astoreN_3 (pc' := 4) d3_3 rfl rfl rfl rfl ?_
  refine Wp.aloadN (pc' := 5) d3_4 rfl rfl rfl ?_
  refine Wp.arraylength k n (pc' := 6) d3_5 hk hN rfl ?_
  refine Wp.istore_4 (pc' := 8) d3_6 rfl rfl ?_
  refine Wp.iconst (0) (pc' := 9) d3_8 rfl rfl ?_
  refine Wp.istore_5 (pc' := 11) d3_9 rfl rfl ?_
  exact K xs [] p 0 _ rfl rfl rfl hR
theorem con2 {l : Launch} {Z : State} {a0 : Array Value} {n0 : Nat} (hw : Hw Z a0) (o a : Addr) (p : Int32) (xs : List Int32) (hlen : xs.length < 1000) (T : Wp.MH) (k : Nat) (hk : T[k]? = some (a, .inl (.int, xs.map Value.int))) :
    C2 l Z a0 n0 #[.ref o, .null, .int p, .ref a] ((o, .inr ("com/example/planter/planter/ground/ReachedFact", fs_ReachedFact)) :: T) (fun v H' => v = none ∧ H' = (o, .inr ("com/example/planter/planter/ground/ReachedFact", [("number", "I", .int (-1)), ("atom", "Lcom/example/planter/planter/task/Atom;", .null), ("predicate", "I", .int p), ("objects", "[I", .ref a), ("hash", "I", .int (own_hash p xs))])) :: T) := by
  refine Wp.Con.intro pn2 (fun m => ef2 m o p a) ?_
  unfold fs_ReachedFact
  refine Wp.aloadN (pc' := 1) d2_0 rfl rfl rfl ?_
  refine Wp.initObj 0 (pc' := 4) (w11 hw) (w12 hw) (w13 hw) d2_1 rfl (by decide) rfl (by decide) rfl ?_
  refine Wp.aloadN (pc' := 5) d2_4 rfl rfl rfl ?_
  refine Wp.iconst (-1) (pc' := 6) d2_5 rfl rfl ?_
  refine Wp.putfield_0_0 (pc' := 9) (ty := .int) (w14 hw) (Or.inl (w15 hw)) (w6 hw) (by decide) rfl rfl d2_6 rfl ?_
  refine Wp.aloadN (pc' := 10) d2_9 rfl rfl rfl ?_
  refine Wp.aloadN (pc' := 11) d2_10 rfl rfl rfl ?_
  refine Wp.putfield_0_1 (pc' := 14) (ty := (.object "com/example/planter/planter/task/Atom")) (w16 hw) (Or.inr ⟨(w17 hw), rfl, rfl⟩) (w6 hw) (by decide) rfl rfl d2_11 rfl ?_
  refine Wp.aloadN (pc' := 15) d2_14 rfl rfl rfl ?_
  refine Wp.iloadN (pc' := 16) d2_15 rfl rfl ?_
  refine Wp.putfield_0_2 (pc' := 19) (ty := .int) (w18 hw) (Or.inr ⟨(w19 hw), rfl, rfl⟩) (w6 hw) (by decide) rfl rfl d2_16 rfl ?_
  refine Wp.aloadN (pc' := 20) d2_19 rfl rfl rfl ?_
  refine Wp.aloadN (pc' := 21) d2_20 rfl rfl rfl ?_
  refine Wp.putfield_0_3 (pc' := 24) (ty := (.array .int)) (w20 hw) (Or.inr ⟨(w21 hw), rfl, rfl⟩) (w6 hw) (by decide) rfl rfl d2_21 rfl ?_
  refine Wp.aloadN (pc' := 25) d2_24 rfl rfl rfl ?_
  refine Wp.iloadN (pc' := 26) d2_25 rfl rfl ?_
  refine Wp.aloadN (pc' := 27) d2_26 rfl rfl rfl ?_
  refine Wp.callS_2 1 (pc' := 30) (cells' := 0) (slots' := 0)  (rm := rm3) (w22 hw) (w23 hw) (w24 hw) (w25 hw) (by decide) pd0 rfl d2_27 rfl rfl (by decide) (by decide) (by decide) (by decide) rfl rfl rfl ?_
  refine (con3 hw p xs hlen a _ (k + 1) hk).mono ?_
  rintro _ _ ⟨rfl, rfl⟩
  refine Wp.afterS ?_
  refine Wp.putfield_0_4 (pc' := 33) (ty := .int) (w27 hw) (Or.inr ⟨(w28 hw), rfl, rfl⟩) (w6 hw) (by decide) rfl rfl d2_30 rfl ?_
  refine Wp.return_ rfl d2_33 ?_
  exact ⟨rfl, rfl⟩
theorem con4 {l : Launch} {Z : State} {a0 : Array Value} {n0 : Nat} (hw : Hw Z a0) (o a b : Addr) (p q h : Int32) (xs ys : List Int32) (hx : xs.length < 1000) (hy : ys.length < 1000) (H : Wp.MH) (h0 : H[0]? = some (o, .inr ("com/example/planter/planter/ground/ReachedFact", [("number", "I", .int (-1)), ("atom", "Lcom/example/planter/planter/task/Atom;", .null), ("predicate", "I", .int p), ("objects", "[I", .ref a), ("hash", "I", .int h)]))) (h1 : H[2]? = some (a, .inl (.int, xs.map Value.int))) (h2 : H[1]? = some (b, .inl (.int, ys.map Value.int))) :
    C4 l Z a0 n0 #[.ref o, .int q, .ref b] H (fun v H' => v = some (.int (own_b (decide (p = q ∧ xs = ys)))) ∧ H' = H) := by
  refine Wp.Con.intro pn4 (fun m => ef4 m o q b) ?_
  generalize hR : decide (p = q ∧ xs = ys) = r
  generalize hQ : (fun (v : Option Value) (H' : Wp.MH) => v = some (.int (own_b r)) ∧ H' = H) = Q
  have hnx : (Int32.ofNat (xs.map Value.int).length).toInt = xs.length := by
    rw [List.length_map]; exact Int32.toInt_ofNat_of_lt (by omega)
  generalize hNx : Int32.ofNat (xs.map Value.int).length = nx at hnx
  have hny : (Int32.ofNat (ys.map Value.int).length).toInt = ys.length := by
    rw [List.length_map]; exact Int32.toInt_ofNat_of_lt (by omega)
  generalize hNy : Int32.ofNat (ys.map Value.int).length = ny at hny
  have K : ∀ (us vs pre : List Int32) (j : Int32), xs = pre ++ us → ys = pre ++ vs → us.length = vs.length → j.toInt = (pre.length : Int) → decide (us = vs) = r →
      W4 l Z a0 n0 0 0 22 [.val (.ref o), .val (.int q), .val (.ref b), .val (.int j)] [] H Q := by
    intro us
    induction us with
    | nil =>
      intro vs pre j ex ey hl hj hr
      have : vs = [] := List.eq_nil_of_length_eq_zero (by simpa using hl.symm)
      subst this
      have hl2 : ys.length = pre.length := by rw [ey]; simp
      refine Wp.iloadN (pc' := 23) d4_22 rfl rfl ?_
      refine Wp.aloadN (pc' := 24) d4_23 rfl rfl rfl ?_
      refine Wp.arraylength 1 ny (pc' := 25) d4_24 h2 hNy rfl ?_
      refine Wp.icmp_ge (pt := 48) (pf := 28) d4_25 (by decide) rfl (fun hc25 => ?_) (fun hc25 => ?_)
      · refine Wp.iconst (1) (pc' := 49) d4_48 rfl rfl ?_
        refine Wp.zreturn rfl d4_49 ?_
        subst hQ; exact ⟨own_b1 (by rw [← hr]; rfl), rfl⟩
      · exfalso; omega
    | cons u us ih =>
      intro vs pre j ex ey hl hj hr
      match vs, hl with
      | v :: vs, hl =>
        have hl2 : ys.length = pre.length + (vs.length + 1) := by rw [ey]; simp
        refine Wp.iloadN (pc' := 23) d4_22 rfl rfl ?_
        refine Wp.aloadN (pc' := 24) d4_23 rfl rfl rfl ?_
        refine Wp.arraylength 1 ny (pc' := 25) d4_24 h2 hNy rfl ?_
        refine Wp.icmp_ge (pt := 48) (pf := 28) d4_25 (by decide) rfl (fun hc25 => ?_) (fun hc25 => ?_)
        · exfalso; omega
        · refine Wp.aloadN (pc' := 29) d4_28 rfl rfl rfl ?_
          refine Wp.getfield 0 3 (pc' := 32) (w20 hw) d4_29 h0 rfl rfl ?_
          refine Wp.iloadN (pc' := 33) d4_32 rfl rfl ?_
          refine Wp.iaload 2 pre.length (v := .int u) (pc' := 34) d4_33 h1 hj (by rw [ex]; simp) rfl ?_
          refine Wp.aloadN (pc' := 35) d4_34 rfl rfl rfl ?_
          refine Wp.iloadN (pc' := 36) d4_35 rfl rfl ?_
          refine Wp.iaload 1 pre.length (v := .int v) (pc' := 37) d4_36 h2 hj (by rw [ey]; simp) rfl ?_
          refine Wp.icmp_eq (pt := 42) (pf := 40) d4_37 (by decide) rfl (fun hc37 => ?_) (fun hc37 => ?_)
          · refine Wp.iinc_3 (1) (pc' := 45) d4_42 rfl rfl ?_
            refine Wp.goto (pc' := 22) d4_45 (by decide) ?_
            subst hc37; exact ih vs (pre ++ [u]) _ (by rw [ex]; simp) (by rw [ey]; simp) (by simpa using hl) (by rw [own_inc hj (by omega)]; simp) (by rw [← hr]; simp)
          · refine Wp.iconst (0) (pc' := 41) d4_40 rfl rfl ?_
            refine Wp.zreturn rfl d4_41 ?_
            subst hQ; exact ⟨own_b0 (by rw [← hr]; exact decide_eq_false (fun e => hc37 (List.cons.inj e).1)), rfl⟩
  refine Wp.aloadN (pc' := 1) d4_0 rfl rfl rfl ?_
  refine Wp.getfield 0 2 (pc' := 4) (w18 hw) d4_1 h0 rfl rfl ?_
  refine Wp.iloadN (pc' := 5) d4_4 rfl rfl ?_
  refine Wp.icmp_ne (pt := 18) (pf := 8) d4_5 (by decide) rfl (fun hc5 => ?_) (fun hc5 => ?_)
  · refine Wp.iconst (0) (pc' := 19) d4_18 rfl rfl ?_
    refine Wp.zreturn rfl d4_19 ?_
    subst hQ; refine ⟨own_b0 (by rw [← hR]; exact decide_eq_false (by rintro ⟨e1, e2⟩; first | exact hc5 e1 | (apply hc15; rw [← hNx, ← hNy, e2]))), rfl⟩
  · refine Wp.aloadN (pc' := 9) d4_8 rfl rfl rfl ?_
    refine Wp.getfield 0 3 (pc' := 12) (w20 hw) d4_9 h0 rfl rfl ?_
    refine Wp.arraylength 2 nx (pc' := 13) d4_12 h1 hNx rfl ?_
    refine Wp.aloadN (pc' := 14) d4_13 rfl rfl rfl ?_
    refine Wp.arraylength 1 ny (pc' := 15) d4_14 h2 hNy rfl ?_
    refine Wp.icmp_eq (pt := 20) (pf := 18) d4_15 (by decide) rfl (fun hc15 => ?_) (fun hc15 => ?_)
    · refine Wp.iconst (0) (pc' := 21) d4_20 rfl rfl ?_
      refine Wp.istoreN_3 (pc' := 22) d4_21 rfl rfl ?_
      exact K xs ys [] _ rfl rfl (by have := congrArg Int32.toInt hc15; omega) rfl (by rw [← hR]; simp [hc5])
    · refine Wp.iconst (0) (pc' := 19) d4_18 rfl rfl ?_
      refine Wp.zreturn rfl d4_19 ?_
      subst hQ; refine ⟨own_b0 (by rw [← hR]; exact decide_eq_false (by rintro ⟨e1, e2⟩; first | exact hc5 e1 | (apply hc15; rw [← hNx, ← hNy, e2]))), rfl⟩
theorem own_fin (p q n1 n2 a b c x0 x1 x2 : Int32) (h1 : 0 ≤ n1.toInt ∧ n1.toInt ≤ 3) (h2 : 0 ≤ n2.toInt ∧ n2.toInt ≤ 3) :
    (p = q ∧ own_mk n1 a b c = own_mk n2 x0 x1 x2) ↔ (p = q ∧ n1 = n2 ∧ (n1.toInt < 1 ∨ a = x0) ∧ (n1.toInt < 2 ∨ b = x1) ∧ (n1.toInt < 3 ∨ c = x2)) := by
  have e1 : n1 = 0 ∨ n1 = 1 ∨ n1 = 2 ∨ n1 = 3 := by simp only [← Int32.toInt_inj, Int32.reduceToInt]; omega
  have e2 : n2 = 0 ∨ n2 = 1 ∨ n2 = 2 ∨ n2 = 3 := by simp only [← Int32.toInt_inj, Int32.reduceToInt]; omega
  rcases e1 with rfl | rfl | rfl | rfl <;> rcases e2 with rfl | rfl | rfl | rfl <;> simp [own_mk]
theorem law_con (l : Launch) (Z : State) (a0 : Array Value) (n0 : Nat) (hw : Hw Z a0) (p a b c sel d : Int32) :
    C0 l Z a0 n0 #[.int p, .int a, .int b, .int c, .int sel, .int d] [] (fun v _ => v = some (.int 1)) := by
  refine Wp.Con.intro pn0 (fun m => ef0 m p a b c sel d) ?_
  have h3 : ∀ u : Int32, 0 ≤ (u &&& 3).toInt ∧ (u &&& 3).toInt ≤ 3 := fun u => by
    have : (u &&& 3).toInt = u.toInt % (2 ^ 2 : Nat) := c_mask u 3 2 (by decide) (by decide)
    omega
  have hn1 := h3 sel
  generalize hN1 : sel &&& 3 = n1 at hn1
  have K200 : ∀ (n2 q x0 x1 x2 : Int32) (r1 r2 r3 : Addr) (g e : Bool) (H : Wp.MH), g = e → W0 l Z a0 n0 3 11 200 [.val (.int p), .val (.int a), .val (.int b), .val (.int c), .val (.int sel), .val (.int d), .val (.int n1), .val (.int n2), .val (.int q), .val (.int x0), .val (.int x1), .val (.int x2), .val (.ref r1), .val (.ref r2), .val (.ref r3), .val (.int (own_b g)), .unset] [.int (own_b e)] H (fun v _ => v = some (.int 1)) := by
    intro n2 q x0 x1 x2 r1 r2 r3 g e H he
    subst he
    refine Wp.istore_16 (pc' := 202) at_200 rfl rfl ?_
    refine Wp.iload (pc' := 204) at_202 rfl rfl ?_
    refine Wp.iload (pc' := 206) at_204 rfl rfl ?_
    refine Wp.icmp_ne (pt := 213) (pf := 209) at_206 (by decide) rfl (fun hc206 => ?_) (fun hc206 => ?_)
    · exact absurd rfl hc206
    · refine Wp.iconst (1) (pc' := 210) at_209 rfl rfl ?_
      refine Wp.goto (pc' := 214) at_210 (by decide) ?_
      refine Wp.zreturn rfl at_214 ?_
      rfl
  have K97 : ∀ n2 q x0 x1 x2 : Int32, 0 ≤ n2.toInt ∧ n2.toInt ≤ 3 → W0 l Z a0 n0 0 0 97 [.val (.int p), .val (.int a), .val (.int b), .val (.int c), .val (.int sel), .val (.int d), .val (.int n1), .val (.int n2), .val (.int q), .val (.int x0), .val (.int x1), .unset, .unset, .unset, .unset, .unset, .unset] [.int x2] [] (fun v _ => v = some (.int 1)) := by
    intro n2 q x0 x1 x2 hn2
    have hfin := own_fin p q n1 n2 a b c x0 x1 x2 hn1 hn2
    refine Wp.istore_11 (pc' := 99) at_97 rfl rfl ?_
    refine Wp.iload (pc' := 101) at_99 rfl rfl ?_
    refine Wp.iloadN (pc' := 102) at_101 rfl rfl ?_
    refine Wp.iloadN (pc' := 103) at_102 rfl rfl ?_
    refine Wp.iloadN (pc' := 104) at_103 rfl rfl ?_
    refine Wp.callS_4 0 (pc' := 107) (cells' := 1) (slots' := 3)  (rm := rm1) (w0 hw) (w1 hw) (w2 hw) (w3 hw) (by decide) pd1 rfl at_104 rfl rfl (by decide) (by decide) (by decide) (by decide) rfl rfl rfl ?_
    refine (con1 hw _ _ _ _ _).mono ?_
    rintro _ _ ⟨r1, rfl, rfl⟩
    refine Wp.afterS ?_
    refine Wp.astore_12 (pc' := 109) at_107 rfl rfl rfl rfl ?_
    refine Wp.iload (pc' := 111) at_109 rfl rfl ?_
    refine Wp.iload (pc' := 113) at_111 rfl rfl ?_
    refine Wp.iload (pc' := 115) at_113 rfl rfl ?_
    refine Wp.iload (pc' := 117) at_115 rfl rfl ?_
    refine Wp.callS_4 0 (pc' := 120) (cells' := 2) (slots' := 6)  (rm := rm1) (w0 hw) (w1 hw) (w2 hw) (w3 hw) (by decide) pd1 rfl at_117 rfl rfl (by decide) (by decide) (by decide) (by decide) rfl rfl rfl ?_
    refine (con1 hw _ _ _ _ _).mono ?_
    rintro _ _ ⟨r2, rfl, rfl⟩
    refine Wp.afterS ?_
    refine Wp.astore_13 (pc' := 122) at_120 rfl rfl rfl rfl ?_
    refine Wp.new_ (pc' := 125) (cells' := 3) (slots' := 11) fs_ReachedFact (w5 hw) (w6 hw) (w7 hw) (by decide) (fs_ReachedFact_ok hw) at_122 (by decide) (by decide) rfl rfl rfl (fun a122 => ?_)
    refine Wp.dup (pc' := 126) at_125 rfl rfl ?_
    refine Wp.aconstNull (pc' := 127) at_126 rfl ?_
    refine Wp.iloadN (pc' := 128) at_127 rfl rfl ?_
    refine Wp.aload (pc' := 130) at_128 rfl rfl rfl ?_
    refine Wp.callI_3 1 (pc' := 133) (cells' := 3) (slots' := 11)  (rm := rm2) rfl (w8 hw) (w9 hw) (w7 hw) (w10 hw) (by decide) pd2 rfl at_130 rfl rfl (by decide) (by decide) (by decide) (by decide) rfl rfl rfl ?_
    refine (con2 hw _ _ _ _ (own_mklen n1 a b c) _ 1 rfl).mono ?_
    rintro _ _ ⟨rfl, rfl⟩
    refine Wp.afterN ?_
    refine Wp.astore_14 (pc' := 135) at_133 rfl rfl rfl rfl ?_
    refine Wp.aload (pc' := 137) at_135 rfl rfl rfl ?_
    refine Wp.iload (pc' := 139) at_137 rfl rfl ?_
    refine Wp.aload (pc' := 141) at_139 rfl rfl rfl ?_
    first | (refine Wp.callV_2 0 0 (pc' := 144) (cells' := 3) (slots' := 11)  (rm := rm4) (w29 hw) (w30 hw) (w32 hw) (w31 hw) (w7 hw) (w33 hw) (by decide) pd3 rfl at_141 rfl rfl rfl (by decide) (by decide) (by decide) (by decide) rfl rfl rfl ?_) | (refine Wp.callV_2 1 0 (pc' := 144) (cells' := 3) (slots' := 11)  (rm := rm4) (w29 hw) (w30 hw) (w32 hw) (w31 hw) (w7 hw) (w33 hw) (by decide) pd3 rfl at_141 rfl rfl rfl (by decide) (by decide) (by decide) (by decide) rfl rfl rfl ?_) | (refine Wp.callV_2 2 0 (pc' := 144) (cells' := 3) (slots' := 11)  (rm := rm4) (w29 hw) (w30 hw) (w32 hw) (w31 hw) (w7 hw) (w33 hw) (by decide) pd3 rfl at_141 rfl rfl rfl (by decide) (by decide) (by decide) (by decide) rfl rfl rfl ?_) | (refine Wp.callV_2 3 0 (pc' := 144) (cells' := 3) (slots' := 11)  (rm := rm4) (w29 hw) (w30 hw) (w32 hw) (w31 hw) (w7 hw) (w33 hw) (by decide) pd3 rfl at_141 rfl rfl rfl (by decide) (by decide) (by decide) (by decide) rfl rfl rfl ?_) | (refine Wp.callV_2 4 0 (pc' := 144) (cells' := 3) (slots' := 11)  (rm := rm4) (w29 hw) (w30 hw) (w32 hw) (w31 hw) (w7 hw) (w33 hw) (by decide) pd3 rfl at_141 rfl rfl rfl (by decide) (by decide) (by decide) (by decide) rfl rfl rfl ?_)
    refine (con4 hw _ _ _ _ _ _ _ _ (own_mklen n1 a b c) (own_mklen n2 x0 x1 x2) _ rfl rfl rfl).mono ?_
    rintro _ _ ⟨rfl, rfl⟩
    refine Wp.afterS ?_
    refine Wp.istore_15 (pc' := 146) at_144 rfl rfl ?_
    refine Wp.iloadN (pc' := 147) at_146 rfl rfl ?_
    refine Wp.iload (pc' := 149) at_147 rfl rfl ?_
    refine Wp.icmp_ne (pt := 199) (pf := 152) at_149 (by decide) rfl (fun hc149 => ?_) (fun hc149 => ?_)
    · refine Wp.iconst (0) (pc' := 200) at_199 rfl rfl ?_
      try simp only [Int32.reduceToInt] at hc149
      first | exact K200 _ _ _ _ _ _ _ _ _ true _ (decide_eq_true (hfin.mpr (by refine ⟨by assumption, by assumption, ?_, ?_, ?_⟩ <;> first | (left; assumption) | (right; assumption) | (left; omega)))) | exact K200 _ _ _ _ _ _ _ _ _ false _ (decide_eq_false (fun k => by obtain ⟨k1, k2, k3, k4, k5⟩ := hfin.mp k; first | contradiction | (rcases k3 with k | k <;> first | omega | contradiction) | (rcases k4 with k | k <;> first | omega | contradiction) | (rcases k5 with k | k <;> first | omega | contradiction)))
    · refine Wp.iload (pc' := 154) at_152 rfl rfl ?_
      refine Wp.iload (pc' := 156) at_154 rfl rfl ?_
      refine Wp.icmp_ne (pt := 199) (pf := 159) at_156 (by decide) rfl (fun hc156 => ?_) (fun hc156 => ?_)
      · refine Wp.iconst (0) (pc' := 200) at_199 rfl rfl ?_
        try simp only [Int32.reduceToInt] at hc149 hc156
        first | exact K200 _ _ _ _ _ _ _ _ _ true _ (decide_eq_true (hfin.mpr (by refine ⟨by assumption, by assumption, ?_, ?_, ?_⟩ <;> first | (left; assumption) | (right; assumption) | (left; omega)))) | exact K200 _ _ _ _ _ _ _ _ _ false _ (decide_eq_false (fun k => by obtain ⟨k1, k2, k3, k4, k5⟩ := hfin.mp k; first | contradiction | (rcases k3 with k | k <;> first | omega | contradiction) | (rcases k4 with k | k <;> first | omega | contradiction) | (rcases k5 with k | k <;> first | omega | contradiction)))
      · refine Wp.iload (pc' := 161) at_159 rfl rfl ?_
        refine Wp.iconst (1) (pc' := 162) at_161 rfl rfl ?_
        refine Wp.icmp_lt (pt := 171) (pf := 165) at_162 (by decide) rfl (fun hc162 => ?_) (fun hc162 => ?_)
        · refine Wp.iload (pc' := 173) at_171 rfl rfl ?_
          refine Wp.iconst (2) (pc' := 174) at_173 rfl rfl ?_
          refine Wp.icmp_lt (pt := 183) (pf := 177) at_174 (by decide) rfl (fun hc174 => ?_) (fun hc174 => ?_)
          · refine Wp.iload (pc' := 185) at_183 rfl rfl ?_
            refine Wp.iconst (3) (pc' := 186) at_185 rfl rfl ?_
            refine Wp.icmp_lt (pt := 195) (pf := 189) at_186 (by decide) rfl (fun hc186 => ?_) (fun hc186 => ?_)
            · refine Wp.iconst (1) (pc' := 196) at_195 rfl rfl ?_
              refine Wp.goto (pc' := 200) at_196 (by decide) ?_
              try simp only [Int32.reduceToInt] at hc149 hc156 hc162 hc174 hc186
              first | exact K200 _ _ _ _ _ _ _ _ _ true _ (decide_eq_true (hfin.mpr (by refine ⟨by assumption, by assumption, ?_, ?_, ?_⟩ <;> first | (left; assumption) | (right; assumption) | (left; omega)))) | exact K200 _ _ _ _ _ _ _ _ _ false _ (decide_eq_false (fun k => by obtain ⟨k1, k2, k3, k4, k5⟩ := hfin.mp k; first | contradiction | (rcases k3 with k | k <;> first | omega | contradiction) | (rcases k4 with k | k <;> first | omega | contradiction) | (rcases k5 with k | k <;> first | omega | contradiction)))
            · refine Wp.iloadN (pc' := 190) at_189 rfl rfl ?_
              refine Wp.iload (pc' := 192) at_190 rfl rfl ?_
              refine Wp.icmp_ne (pt := 199) (pf := 195) at_192 (by decide) rfl (fun hc192 => ?_) (fun hc192 => ?_)
              · refine Wp.iconst (0) (pc' := 200) at_199 rfl rfl ?_
                try simp only [Int32.reduceToInt] at hc149 hc156 hc162 hc174 hc186 hc192
                first | exact K200 _ _ _ _ _ _ _ _ _ true _ (decide_eq_true (hfin.mpr (by refine ⟨by assumption, by assumption, ?_, ?_, ?_⟩ <;> first | (left; assumption) | (right; assumption) | (left; omega)))) | exact K200 _ _ _ _ _ _ _ _ _ false _ (decide_eq_false (fun k => by obtain ⟨k1, k2, k3, k4, k5⟩ := hfin.mp k; first | contradiction | (rcases k3 with k | k <;> first | omega | contradiction) | (rcases k4 with k | k <;> first | omega | contradiction) | (rcases k5 with k | k <;> first | omega | contradiction)))
              · refine Wp.iconst (1) (pc' := 196) at_195 rfl rfl ?_
                refine Wp.goto (pc' := 200) at_196 (by decide) ?_
                try simp only [Int32.reduceToInt] at hc149 hc156 hc162 hc174 hc186 hc192
                first | exact K200 _ _ _ _ _ _ _ _ _ true _ (decide_eq_true (hfin.mpr (by refine ⟨by assumption, by assumption, ?_, ?_, ?_⟩ <;> first | (left; assumption) | (right; assumption) | (left; omega)))) | exact K200 _ _ _ _ _ _ _ _ _ false _ (decide_eq_false (fun k => by obtain ⟨k1, k2, k3, k4, k5⟩ := hfin.mp k; first | contradiction | (rcases k3 with k | k <;> first | omega | contradiction) | (rcases k4 with k | k <;> first | omega | contradiction) | (rcases k5 with k | k <;> first | omega | contradiction)))
          · refine Wp.iloadN (pc' := 178) at_177 rfl rfl ?_
            refine Wp.iload (pc' := 180) at_178 rfl rfl ?_
            refine Wp.icmp_ne (pt := 199) (pf := 183) at_180 (by decide) rfl (fun hc180 => ?_) (fun hc180 => ?_)
            · refine Wp.iconst (0) (pc' := 200) at_199 rfl rfl ?_
              try simp only [Int32.reduceToInt] at hc149 hc156 hc162 hc174 hc180
              first | exact K200 _ _ _ _ _ _ _ _ _ true _ (decide_eq_true (hfin.mpr (by refine ⟨by assumption, by assumption, ?_, ?_, ?_⟩ <;> first | (left; assumption) | (right; assumption) | (left; omega)))) | exact K200 _ _ _ _ _ _ _ _ _ false _ (decide_eq_false (fun k => by obtain ⟨k1, k2, k3, k4, k5⟩ := hfin.mp k; first | contradiction | (rcases k3 with k | k <;> first | omega | contradiction) | (rcases k4 with k | k <;> first | omega | contradiction) | (rcases k5 with k | k <;> first | omega | contradiction)))
            · refine Wp.iload (pc' := 185) at_183 rfl rfl ?_
              refine Wp.iconst (3) (pc' := 186) at_185 rfl rfl ?_
              refine Wp.icmp_lt (pt := 195) (pf := 189) at_186 (by decide) rfl (fun hc186 => ?_) (fun hc186 => ?_)
              · refine Wp.iconst (1) (pc' := 196) at_195 rfl rfl ?_
                refine Wp.goto (pc' := 200) at_196 (by decide) ?_
                try simp only [Int32.reduceToInt] at hc149 hc156 hc162 hc174 hc180 hc186
                first | exact K200 _ _ _ _ _ _ _ _ _ true _ (decide_eq_true (hfin.mpr (by refine ⟨by assumption, by assumption, ?_, ?_, ?_⟩ <;> first | (left; assumption) | (right; assumption) | (left; omega)))) | exact K200 _ _ _ _ _ _ _ _ _ false _ (decide_eq_false (fun k => by obtain ⟨k1, k2, k3, k4, k5⟩ := hfin.mp k; first | contradiction | (rcases k3 with k | k <;> first | omega | contradiction) | (rcases k4 with k | k <;> first | omega | contradiction) | (rcases k5 with k | k <;> first | omega | contradiction)))
              · refine Wp.iloadN (pc' := 190) at_189 rfl rfl ?_
                refine Wp.iload (pc' := 192) at_190 rfl rfl ?_
                refine Wp.icmp_ne (pt := 199) (pf := 195) at_192 (by decide) rfl (fun hc192 => ?_) (fun hc192 => ?_)
                · refine Wp.iconst (0) (pc' := 200) at_199 rfl rfl ?_
                  try simp only [Int32.reduceToInt] at hc149 hc156 hc162 hc174 hc180 hc186 hc192
                  first | exact K200 _ _ _ _ _ _ _ _ _ true _ (decide_eq_true (hfin.mpr (by refine ⟨by assumption, by assumption, ?_, ?_, ?_⟩ <;> first | (left; assumption) | (right; assumption) | (left; omega)))) | exact K200 _ _ _ _ _ _ _ _ _ false _ (decide_eq_false (fun k => by obtain ⟨k1, k2, k3, k4, k5⟩ := hfin.mp k; first | contradiction | (rcases k3 with k | k <;> first | omega | contradiction) | (rcases k4 with k | k <;> first | omega | contradiction) | (rcases k5 with k | k <;> first | omega | contradiction)))
                · refine Wp.iconst (1) (pc' := 196) at_195 rfl rfl ?_
                  refine Wp.goto (pc' := 200) at_196 (by decide) ?_
                  try simp only [Int32.reduceToInt] at hc149 hc156 hc162 hc174 hc180 hc186 hc192
                  first | exact K200 _ _ _ _ _ _ _ _ _ true _ (decide_eq_true (hfin.mpr (by refine ⟨by assumption, by assumption, ?_, ?_, ?_⟩ <;> first | (left; assumption) | (right; assumption) | (left; omega)))) | exact K200 _ _ _ _ _ _ _ _ _ false _ (decide_eq_false (fun k => by obtain ⟨k1, k2, k3, k4, k5⟩ := hfin.mp k; first | contradiction | (rcases k3 with k | k <;> first | omega | contradiction) | (rcases k4 with k | k <;> first | omega | contradiction) | (rcases k5 with k | k <;> first | omega | contradiction)))
        · refine Wp.iloadN (pc' := 166) at_165 rfl rfl ?_
          refine Wp.iload (pc' := 168) at_166 rfl rfl ?_
          refine Wp.icmp_ne (pt := 199) (pf := 171) at_168 (by decide) rfl (fun hc168 => ?_) (fun hc168 => ?_)
          · refine Wp.iconst (0) (pc' := 200) at_199 rfl rfl ?_
            try simp only [Int32.reduceToInt] at hc149 hc156 hc162 hc168
            first | exact K200 _ _ _ _ _ _ _ _ _ true _ (decide_eq_true (hfin.mpr (by refine ⟨by assumption, by assumption, ?_, ?_, ?_⟩ <;> first | (left; assumption) | (right; assumption) | (left; omega)))) | exact K200 _ _ _ _ _ _ _ _ _ false _ (decide_eq_false (fun k => by obtain ⟨k1, k2, k3, k4, k5⟩ := hfin.mp k; first | contradiction | (rcases k3 with k | k <;> first | omega | contradiction) | (rcases k4 with k | k <;> first | omega | contradiction) | (rcases k5 with k | k <;> first | omega | contradiction)))
          · refine Wp.iload (pc' := 173) at_171 rfl rfl ?_
            refine Wp.iconst (2) (pc' := 174) at_173 rfl rfl ?_
            refine Wp.icmp_lt (pt := 183) (pf := 177) at_174 (by decide) rfl (fun hc174 => ?_) (fun hc174 => ?_)
            · refine Wp.iload (pc' := 185) at_183 rfl rfl ?_
              refine Wp.iconst (3) (pc' := 186) at_185 rfl rfl ?_
              refine Wp.icmp_lt (pt := 195) (pf := 189) at_186 (by decide) rfl (fun hc186 => ?_) (fun hc186 => ?_)
              · refine Wp.iconst (1) (pc' := 196) at_195 rfl rfl ?_
                refine Wp.goto (pc' := 200) at_196 (by decide) ?_
                try simp only [Int32.reduceToInt] at hc149 hc156 hc162 hc168 hc174 hc186
                first | exact K200 _ _ _ _ _ _ _ _ _ true _ (decide_eq_true (hfin.mpr (by refine ⟨by assumption, by assumption, ?_, ?_, ?_⟩ <;> first | (left; assumption) | (right; assumption) | (left; omega)))) | exact K200 _ _ _ _ _ _ _ _ _ false _ (decide_eq_false (fun k => by obtain ⟨k1, k2, k3, k4, k5⟩ := hfin.mp k; first | contradiction | (rcases k3 with k | k <;> first | omega | contradiction) | (rcases k4 with k | k <;> first | omega | contradiction) | (rcases k5 with k | k <;> first | omega | contradiction)))
              · refine Wp.iloadN (pc' := 190) at_189 rfl rfl ?_
                refine Wp.iload (pc' := 192) at_190 rfl rfl ?_
                refine Wp.icmp_ne (pt := 199) (pf := 195) at_192 (by decide) rfl (fun hc192 => ?_) (fun hc192 => ?_)
                · refine Wp.iconst (0) (pc' := 200) at_199 rfl rfl ?_
                  try simp only [Int32.reduceToInt] at hc149 hc156 hc162 hc168 hc174 hc186 hc192
                  first | exact K200 _ _ _ _ _ _ _ _ _ true _ (decide_eq_true (hfin.mpr (by refine ⟨by assumption, by assumption, ?_, ?_, ?_⟩ <;> first | (left; assumption) | (right; assumption) | (left; omega)))) | exact K200 _ _ _ _ _ _ _ _ _ false _ (decide_eq_false (fun k => by obtain ⟨k1, k2, k3, k4, k5⟩ := hfin.mp k; first | contradiction | (rcases k3 with k | k <;> first | omega | contradiction) | (rcases k4 with k | k <;> first | omega | contradiction) | (rcases k5 with k | k <;> first | omega | contradiction)))
                · refine Wp.iconst (1) (pc' := 196) at_195 rfl rfl ?_
                  refine Wp.goto (pc' := 200) at_196 (by decide) ?_
                  try simp only [Int32.reduceToInt] at hc149 hc156 hc162 hc168 hc174 hc186 hc192
                  first | exact K200 _ _ _ _ _ _ _ _ _ true _ (decide_eq_true (hfin.mpr (by refine ⟨by assumption, by assumption, ?_, ?_, ?_⟩ <;> first | (left; assumption) | (right; assumption) | (left; omega)))) | exact K200 _ _ _ _ _ _ _ _ _ false _ (decide_eq_false (fun k => by obtain ⟨k1, k2, k3, k4, k5⟩ := hfin.mp k; first | contradiction | (rcases k3 with k | k <;> first | omega | contradiction) | (rcases k4 with k | k <;> first | omega | contradiction) | (rcases k5 with k | k <;> first | omega | contradiction)))
            · refine Wp.iloadN (pc' := 178) at_177 rfl rfl ?_
              refine Wp.iload (pc' := 180) at_178 rfl rfl ?_
              refine Wp.icmp_ne (pt := 199) (pf := 183) at_180 (by decide) rfl (fun hc180 => ?_) (fun hc180 => ?_)
              · refine Wp.iconst (0) (pc' := 200) at_199 rfl rfl ?_
                try simp only [Int32.reduceToInt] at hc149 hc156 hc162 hc168 hc174 hc180
                first | exact K200 _ _ _ _ _ _ _ _ _ true _ (decide_eq_true (hfin.mpr (by refine ⟨by assumption, by assumption, ?_, ?_, ?_⟩ <;> first | (left; assumption) | (right; assumption) | (left; omega)))) | exact K200 _ _ _ _ _ _ _ _ _ false _ (decide_eq_false (fun k => by obtain ⟨k1, k2, k3, k4, k5⟩ := hfin.mp k; first | contradiction | (rcases k3 with k | k <;> first | omega | contradiction) | (rcases k4 with k | k <;> first | omega | contradiction) | (rcases k5 with k | k <;> first | omega | contradiction)))
              · refine Wp.iload (pc' := 185) at_183 rfl rfl ?_
                refine Wp.iconst (3) (pc' := 186) at_185 rfl rfl ?_
                refine Wp.icmp_lt (pt := 195) (pf := 189) at_186 (by decide) rfl (fun hc186 => ?_) (fun hc186 => ?_)
                · refine Wp.iconst (1) (pc' := 196) at_195 rfl rfl ?_
                  refine Wp.goto (pc' := 200) at_196 (by decide) ?_
                  try simp only [Int32.reduceToInt] at hc149 hc156 hc162 hc168 hc174 hc180 hc186
                  first | exact K200 _ _ _ _ _ _ _ _ _ true _ (decide_eq_true (hfin.mpr (by refine ⟨by assumption, by assumption, ?_, ?_, ?_⟩ <;> first | (left; assumption) | (right; assumption) | (left; omega)))) | exact K200 _ _ _ _ _ _ _ _ _ false _ (decide_eq_false (fun k => by obtain ⟨k1, k2, k3, k4, k5⟩ := hfin.mp k; first | contradiction | (rcases k3 with k | k <;> first | omega | contradiction) | (rcases k4 with k | k <;> first | omega | contradiction) | (rcases k5 with k | k <;> first | omega | contradiction)))
                · refine Wp.iloadN (pc' := 190) at_189 rfl rfl ?_
                  refine Wp.iload (pc' := 192) at_190 rfl rfl ?_
                  refine Wp.icmp_ne (pt := 199) (pf := 195) at_192 (by decide) rfl (fun hc192 => ?_) (fun hc192 => ?_)
                  · refine Wp.iconst (0) (pc' := 200) at_199 rfl rfl ?_
                    try simp only [Int32.reduceToInt] at hc149 hc156 hc162 hc168 hc174 hc180 hc186 hc192
                    first | exact K200 _ _ _ _ _ _ _ _ _ true _ (decide_eq_true (hfin.mpr (by refine ⟨by assumption, by assumption, ?_, ?_, ?_⟩ <;> first | (left; assumption) | (right; assumption) | (left; omega)))) | exact K200 _ _ _ _ _ _ _ _ _ false _ (decide_eq_false (fun k => by obtain ⟨k1, k2, k3, k4, k5⟩ := hfin.mp k; first | contradiction | (rcases k3 with k | k <;> first | omega | contradiction) | (rcases k4 with k | k <;> first | omega | contradiction) | (rcases k5 with k | k <;> first | omega | contradiction)))
                  · refine Wp.iconst (1) (pc' := 196) at_195 rfl rfl ?_
                    refine Wp.goto (pc' := 200) at_196 (by decide) ?_
                    try simp only [Int32.reduceToInt] at hc149 hc156 hc162 hc168 hc174 hc180 hc186 hc192
                    first | exact K200 _ _ _ _ _ _ _ _ _ true _ (decide_eq_true (hfin.mpr (by refine ⟨by assumption, by assumption, ?_, ?_, ?_⟩ <;> first | (left; assumption) | (right; assumption) | (left; omega)))) | exact K200 _ _ _ _ _ _ _ _ _ false _ (decide_eq_false (fun k => by obtain ⟨k1, k2, k3, k4, k5⟩ := hfin.mp k; first | contradiction | (rcases k3 with k | k <;> first | omega | contradiction) | (rcases k4 with k | k <;> first | omega | contradiction) | (rcases k5 with k | k <;> first | omega | contradiction)))
  have K79 : ∀ n2 q x0 x1 : Int32, 0 ≤ n2.toInt ∧ n2.toInt ≤ 3 → W0 l Z a0 n0 0 0 79 [.val (.int p), .val (.int a), .val (.int b), .val (.int c), .val (.int sel), .val (.int d), .val (.int n1), .val (.int n2), .val (.int q), .val (.int x0), .unset, .unset, .unset, .unset, .unset, .unset, .unset] [.int x1] [] (fun v _ => v = some (.int 1)) := by
    intro n2 q x0 x1 hn2
    refine Wp.istore_10 (pc' := 81) at_79 rfl rfl ?_
    refine Wp.iload (pc' := 83) at_81 rfl rfl ?_
    refine Wp.bipush (8) (pc' := 85) at_83 rfl rfl ?_
    refine Wp.iushr (pc' := 86) at_85 rfl ?_
    refine Wp.iconst (1) (pc' := 87) at_86 rfl rfl ?_
    refine Wp.iand (pc' := 88) at_87 rfl ?_
    refine Wp.if_eq (pt := 95) (pf := 91) at_88 (by decide) rfl (fun hc88 => ?_) (fun hc88 => ?_)
    · refine Wp.iload (pc' := 97) at_95 rfl rfl ?_
      exact K97 _ _ _ _ _ hn2
    · refine Wp.iloadN (pc' := 92) at_91 rfl rfl ?_
      refine Wp.goto (pc' := 97) at_92 (by decide) ?_
      exact K97 _ _ _ _ _ hn2
  have K61 : ∀ n2 q x0 : Int32, 0 ≤ n2.toInt ∧ n2.toInt ≤ 3 → W0 l Z a0 n0 0 0 61 [.val (.int p), .val (.int a), .val (.int b), .val (.int c), .val (.int sel), .val (.int d), .val (.int n1), .val (.int n2), .val (.int q), .unset, .unset, .unset, .unset, .unset, .unset, .unset, .unset] [.int x0] [] (fun v _ => v = some (.int 1)) := by
    intro n2 q x0 hn2
    refine Wp.istore_9 (pc' := 63) at_61 rfl rfl ?_
    refine Wp.iload (pc' := 65) at_63 rfl rfl ?_
    refine Wp.bipush (7) (pc' := 67) at_65 rfl rfl ?_
    refine Wp.iushr (pc' := 68) at_67 rfl ?_
    refine Wp.iconst (1) (pc' := 69) at_68 rfl rfl ?_
    refine Wp.iand (pc' := 70) at_69 rfl ?_
    refine Wp.if_eq (pt := 77) (pf := 73) at_70 (by decide) rfl (fun hc70 => ?_) (fun hc70 => ?_)
    · refine Wp.iload (pc' := 79) at_77 rfl rfl ?_
      exact K79 _ _ _ _ hn2
    · refine Wp.iloadN (pc' := 74) at_73 rfl rfl ?_
      refine Wp.goto (pc' := 79) at_74 (by decide) ?_
      exact K79 _ _ _ _ hn2
  have K43 : ∀ n2 q : Int32, 0 ≤ n2.toInt ∧ n2.toInt ≤ 3 → W0 l Z a0 n0 0 0 43 [.val (.int p), .val (.int a), .val (.int b), .val (.int c), .val (.int sel), .val (.int d), .val (.int n1), .val (.int n2), .unset, .unset, .unset, .unset, .unset, .unset, .unset, .unset, .unset] [.int q] [] (fun v _ => v = some (.int 1)) := by
    intro n2 q hn2
    refine Wp.istore_8 (pc' := 45) at_43 rfl rfl ?_
    refine Wp.iload (pc' := 47) at_45 rfl rfl ?_
    refine Wp.bipush (6) (pc' := 49) at_47 rfl rfl ?_
    refine Wp.iushr (pc' := 50) at_49 rfl ?_
    refine Wp.iconst (1) (pc' := 51) at_50 rfl rfl ?_
    refine Wp.iand (pc' := 52) at_51 rfl ?_
    refine Wp.if_eq (pt := 59) (pf := 55) at_52 (by decide) rfl (fun hc52 => ?_) (fun hc52 => ?_)
    · refine Wp.iload (pc' := 61) at_59 rfl rfl ?_
      exact K61 _ _ _ hn2
    · refine Wp.iloadN (pc' := 56) at_55 rfl rfl ?_
      refine Wp.goto (pc' := 61) at_56 (by decide) ?_
      exact K61 _ _ _ hn2
  have K26 : ∀ n2 : Int32, 0 ≤ n2.toInt ∧ n2.toInt ≤ 3 → W0 l Z a0 n0 0 0 26 [.val (.int p), .val (.int a), .val (.int b), .val (.int c), .val (.int sel), .val (.int d), .val (.int n1), .unset, .unset, .unset, .unset, .unset, .unset, .unset, .unset, .unset, .unset] [.int n2] [] (fun v _ => v = some (.int 1)) := by
    intro n2 hn2
    refine Wp.istore_7 (pc' := 28) at_26 rfl rfl ?_
    refine Wp.iload (pc' := 30) at_28 rfl rfl ?_
    refine Wp.iconst (5) (pc' := 31) at_30 rfl rfl ?_
    refine Wp.iushr (pc' := 32) at_31 rfl ?_
    refine Wp.iconst (1) (pc' := 33) at_32 rfl rfl ?_
    refine Wp.iand (pc' := 34) at_33 rfl ?_
    refine Wp.if_eq (pt := 41) (pf := 37) at_34 (by decide) rfl (fun hc34 => ?_) (fun hc34 => ?_)
    · refine Wp.iload (pc' := 43) at_41 rfl rfl ?_
      exact K43 _ _ hn2
    · refine Wp.iloadN (pc' := 38) at_37 rfl rfl ?_
      refine Wp.goto (pc' := 43) at_38 (by decide) ?_
      exact K43 _ _ hn2
  refine Wp.iload (pc' := 2) at_0 rfl rfl ?_
  refine Wp.iconst (3) (pc' := 3) at_2 rfl rfl ?_
  refine Wp.iand (pc' := 4) at_3 rfl ?_
  rw [hN1]
  refine Wp.istore_6 (pc' := 6) at_4 rfl rfl ?_
  refine Wp.iload (pc' := 8) at_6 rfl rfl ?_
  refine Wp.iconst (2) (pc' := 9) at_8 rfl rfl ?_
  refine Wp.iushr (pc' := 10) at_9 rfl ?_
  refine Wp.iconst (1) (pc' := 11) at_10 rfl rfl ?_
  refine Wp.iand (pc' := 12) at_11 rfl ?_
  refine Wp.if_eq (pt := 20) (pf := 15) at_12 (by decide) rfl (fun hc12 => ?_) (fun hc12 => ?_)
  · refine Wp.iload (pc' := 22) at_20 rfl rfl ?_
    refine Wp.iconst (3) (pc' := 23) at_22 rfl rfl ?_
    refine Wp.iushr (pc' := 24) at_23 rfl ?_
    refine Wp.iconst (3) (pc' := 25) at_24 rfl rfl ?_
    refine Wp.iand (pc' := 26) at_25 rfl ?_
    first | exact K26 _ hn1 | exact K26 _ (h3 _)
  · refine Wp.iload (pc' := 17) at_15 rfl rfl ?_
    refine Wp.goto (pc' := 26) at_17 (by decide) ?_
    first | exact K26 _ hn1 | exact K26 _ (h3 _)
set_option maxRecDepth 65536 in
theorem comes_1 {Post : Tables → Env → Array Value → State → Outcome → State → Prop} (hpost : ∀ tb e args s v u, (limb_1_1.after args s (.returned v) u = true ∧ limb_1_2.after args s (.returned v) u = true ∧ True) → FrameEnd s (.returned v) u (Jvm.fieldLocs frame_1_writes args s ++ Jvm.arrayLocs frame_1_arrays args s ++ Jvm.staticLocs frame_1_statics s) room_1.cells room_1.slots → Post tb e args s (.returned v) u) :
    ArmFor flags0 classFile x code maxLocals ret World_1 tables_1 room_1 Calls_1 rest_1 Pre_1 Post := by
  intro l hfl _ _ p e ha hc hk s m args below hf hA hF happ hP
  obtain ⟨hcalls, hrest, hpre⟩ := hP
  obtain ⟨-, -, -, hnamed, -, -, -, hat⟩ := (Spec.applies_iff hf).mp happ
  obtain ⟨hg, hn⟩ := and_e (Cond.before_iff.mp (show (Jvm.Cond.and given_1 narrow_1).before args s = true from hpre))
  obtain ⟨hcnt, g0⟩ := and_e hg
  obtain ⟨y0, y1, y2, y3, y4, y5, rfl⟩ : ∃ y0 y1 y2 y3 y4 y5 : Value, args = #[y0, y1, y2, y3, y4, y5] := by
    have hs : args.size = 6 := by simpa [Cond.value, given_1] using hcnt
    obtain ⟨L⟩ := args
    match L, hs with
    | [y0, y1, y2, y3, y4, y5], _ => exact ⟨y0, y1, y2, y3, y4, y5, rfl⟩
  have hw := fun d (hd : d ∈ tables_1) => atoms_spec (ws := Jvm.Cond.code x code maxLocals ret :: tables_1) hat d (List.mem_cons_of_mem _ hd)
  obtain ⟨g0a, g1⟩ := and_e g0
  obtain ⟨i0, e0⟩ := is_v g0a
  obtain rfl : y0 = .int i0 := Option.some.inj e0
  obtain ⟨g1a, g2⟩ := and_e g1
  obtain ⟨i1, e1⟩ := is_v g1a
  obtain rfl : y1 = .int i1 := Option.some.inj e1
  obtain ⟨g2a, g3⟩ := and_e g2
  obtain ⟨i2, e2⟩ := is_v g2a
  obtain rfl : y2 = .int i2 := Option.some.inj e2
  obtain ⟨g3a, g4⟩ := and_e g3
  obtain ⟨i3, e3⟩ := is_v g3a
  obtain rfl : y3 = .int i3 := Option.some.inj e3
  obtain ⟨g4a, g5⟩ := and_e g4
  obtain ⟨i4, e4⟩ := is_v g4a
  obtain rfl : y4 = .int i4 := Option.some.inj e4
  obtain ⟨i5, e5⟩ := is_v g5
  obtain rfl : y5 = .int i5 := Option.some.inj e5
  obtain ⟨n, o, h1, h2, h3, v, L, rfl, ⟨N, H', hR', rfl⟩, hq⟩ := law_con l s _ s.heap.size hw i0 i1 i2 i3 i4 i5 tables_1 s.heap ⟨Nat.le_refl _, List.nodup_nil, fun _ q => nomatch q⟩ p e ha hc hk s m _ below hf ((Spec.applies_iff_loose hf).mp happ).1 ⟨rfl, State.Warmed39.refl s, rfl⟩ trivial
  refine ⟨n, _, h1, h2, h3, hpost _ _ _ _ _ _ ⟨Cond.after_iff.mpr rfl, Cond.after_iff.mpr (eq_i res_at (Term.int_eval (1)) rfl), trivial⟩ ⟨hq.1, hq.2.1, (hq.2.2.sift fun y hy => Or.inr (N y hy)).mono (by decide) (by decide)⟩⟩
theorem main_1_1 : Claimed_1_1 := comes_1 fun _ _ _ _ _ _ h hF => ⟨h.1, hF⟩
theorem main_1_2 : Claimed_1_2 := comes_1 fun _ _ _ _ _ _ h hF => ⟨h.2.1, hF⟩
end Jvm.Pilot.@@N@@
namespace Jvm.Pilot.@@N@@
open Jvm Jvm.ClassFile Sem Op Lib Jvm.Free Jvm.Stand Jvm.Pilot.@@N@@.Jvm.D
/-! MADE BY PROGRAM (witnessworld.py) out of the Statement's table words and the real class files: 10 classes; the members and pool entries that the words name. The judged class is class 1, her method 2. -/
namespace start1
open Jvm.ClassFile
def u (s : String) : CpInfo := .utf8 (stringToUtf16 s)
/-- a pool by its gaps: so many unusable entries, then the entry; so many at the end -/
def gap : Nat → List CpInfo → List CpInfo
  | 0, r => r
  | n + 1, r => .unusable :: gap n r
def poolList (es : List (Nat × CpInfo)) (last : Nat) : List CpInfo := es.foldr (fun e r => gap e.1 (e.2 :: r)) (gap last [])
def pool (es : List (Nat × CpInfo)) (last : Nat) : Array CpInfo := ⟨poolList es last⟩
def fileOf (pool : Array CpInfo) (this : Nat) (attrs : Array Attribute := #[]) (ms : Array MethodInfo := #[]) (fl : Nat := 33) (sup : Nat := 0) (ifs : Array Nat := #[]) (fds : Array FieldInfo := #[]) : ClassFile where
  minorVersion := 0
  majorVersion := 65
  constantPool := pool
  accessFlags := fl
  thisClass := this
  superClass := sup
  interfaces := ifs
  fields := fds
  methods := ms
  attributes := attrs
def plain (name : String) (sup : Option ClassId) : Class where
  name := name
  kind := .ordinary
  loader := none
  accessFlags := 33
  super := sup
  interfaces := #[]
  cf := none
  fields := #[]
  methods := #[]
  instanceTypes := #[]
  staticTypes := #[]
  resolved := #[]
  callSites := []
  init := .initialized
  statics := none
  mirror := none

def pool0 : Array CpInfo := pool [(5, u "<init>"), (0, u "()V"), (1, .class_ 10), (1, u "java/lang/Object")] 113

def k0c0 : Code := { maxStack := 0, maxLocals := 1, code := object_method_1_code, exceptionTable := #[], attributes := #[] }
def k0m0 : Method := { name := "<init>", desc := "()V", sig := { parameters := [], returnType := none }, accessFlags := 1, code := some k0c0 }
/-- java/lang/Object -/
def k0 : Class := { plain "java/lang/Object" none with
  accessFlags := 33
  interfaces := #[]
  cf := some (fileOf pool0 8 #[] #[{ accessFlags := 1, nameIndex := 5, descriptorIndex := 6, attributes := #[] }] 33 0 #[] #[])
  fields := #[]
  methods := #[k0m0]
  instanceTypes := #[]
  staticTypes := #[]
  resolved := Array.replicate 124 none
  statics := none }

def pool1 : Array CpInfo := pool [(2, .class_ 4), (1, u "java/lang/Object"), (0, u "<init>"), (0, u "()V"), (0, .methodref 8 9), (0, .class_ 10), (0, .nameAndType 11 12), (0, u "com/example/planter/planter/ground/ReachedFactIsPinLaw"), (0, u "make"), (0, u "(IIII)[I"), (0, .class_ 14), (0, u "com/example/planter/planter/ground/ReachedFact"), (0, .methodref 13 16), (0, .nameAndType 5 17), (0, u "(Lcom/example/planter/planter/task/Atom;I[I)V"), (0, .methodref 13 19), (0, .nameAndType 20 21), (0, u "is"), (0, u "(I[I)Z"), (3, u "law"), (0, u "(IIIIII)Z")] 4

def k1m0 : Method := { name := "<init>", desc := "()V", sig := { parameters := [], returnType := none }, accessFlags := 2, code := none }
def k1c1 : Code := { maxStack := 4, maxLocals := 4, code := method_2_code, exceptionTable := #[], attributes := #[] }
def k1m1 : Method := { name := "make", desc := "(IIII)[I", sig := { parameters := [.int, .int, .int, .int], returnType := some (.array .int) }, accessFlags := 10, code := some k1c1 }
def k1c2 : Code := { maxStack := 5, maxLocals := 17, code := code, exceptionTable := #[], attributes := #[] }
def k1m2 : Method := { name := "law", desc := "(IIIIII)Z", sig := { parameters := [.int, .int, .int, .int, .int, .int], returnType := some .boolean }, accessFlags := 9, code := some k1c2 }
/-- com/example/planter/planter/ground/ReachedFactIsPinLaw -/
def k1 : Class := { plain "com/example/planter/planter/ground/ReachedFactIsPinLaw" (some 0) with
  accessFlags := 49
  interfaces := #[]
  cf := some (fileOf pool1 8 #[] #[{ accessFlags := 2, nameIndex := 5, descriptorIndex := 6, attributes := #[] }, { accessFlags := 10, nameIndex := 11, descriptorIndex := 12, attributes := #[] }, { accessFlags := 9, nameIndex := 25, descriptorIndex := 26, attributes := #[] }] 49 2 #[] #[])
  fields := #[]
  methods := #[k1m0, k1m1, k1m2]
  instanceTypes := #[]
  staticTypes := #[]
  resolved := Array.replicate 31 none
  statics := none }

def pool2 : Array CpInfo := pool [(1, .methodref 2 3), (0, .class_ 4), (0, .nameAndType 5 6), (0, u "java/lang/Object"), (0, u "<init>"), (0, u "()V"), (0, .fieldref 8 9), (0, .class_ 10), (0, .nameAndType 11 12), (0, u "com/example/planter/planter/ground/ReachedFact"), (0, u "number"), (0, u "I"), (0, .fieldref 8 14), (0, .nameAndType 15 16), (0, u "atom"), (0, u "Lcom/example/planter/planter/task/Atom;"), (0, .fieldref 8 18), (0, .nameAndType 19 12), (0, u "predicate"), (0, .fieldref 8 21), (0, .nameAndType 22 23), (0, u "objects"), (0, u "[I"), (0, .methodref 25 26), (0, .class_ 27), (0, .nameAndType 28 29), (0, u "com/example/planter/planter/ground/FactTable"), (0, u "hash"), (0, u "(I[I)I"), (0, .fieldref 8 31), (0, .nameAndType 28 12), (0, u "(Lcom/example/planter/planter/task/Atom;I[I)V"), (7, u "is"), (0, u "(I[I)Z")] 4

def k2c0 : Code := { maxStack := 3, maxLocals := 4, code := prog_37_method_1_code, exceptionTable := #[], attributes := #[] }
def k2m0 : Method := { name := "<init>", desc := "(Lcom/example/planter/planter/task/Atom;I[I)V", sig := { parameters := [(.object "com/example/planter/planter/task/Atom"), .int, (.array .int)], returnType := none }, accessFlags := 0, code := some k2c0 }
def k2c1 : Code := { maxStack := 3, maxLocals := 4, code := prog_37_method_6_code, exceptionTable := #[], attributes := #[] }
def k2m1 : Method := { name := "is", desc := "(I[I)Z", sig := { parameters := [.int, (.array .int)], returnType := some .boolean }, accessFlags := 0, code := some k2c1 }
/-- com/example/planter/planter/ground/ReachedFact -/
def k2 : Class := { plain "com/example/planter/planter/ground/ReachedFact" (some 0) with
  accessFlags := 48
  interfaces := #[]
  cf := some (fileOf pool2 8 #[] #[{ accessFlags := 0, nameIndex := 5, descriptorIndex := 32, attributes := #[] }, { accessFlags := 0, nameIndex := 40, descriptorIndex := 41, attributes := #[] }] 48 2 #[] #[{ accessFlags := 18, nameIndex := 15, descriptorIndex := 16, attributes := #[] }, { accessFlags := 18, nameIndex := 19, descriptorIndex := 12, attributes := #[] }, { accessFlags := 18, nameIndex := 22, descriptorIndex := 23, attributes := #[] }, { accessFlags := 18, nameIndex := 28, descriptorIndex := 12, attributes := #[] }, { accessFlags := 2, nameIndex := 11, descriptorIndex := 12, attributes := #[] }])
  fields := #[{ name := "atom", type := (.object "com/example/planter/planter/task/Atom"), accessFlags := 18, slot := 0, constantValue := 0 }, { name := "predicate", type := .int, accessFlags := 18, slot := 1, constantValue := 0 }, { name := "objects", type := (.array .int), accessFlags := 18, slot := 2, constantValue := 0 }, { name := "hash", type := .int, accessFlags := 18, slot := 3, constantValue := 0 }, { name := "number", type := .int, accessFlags := 2, slot := 4, constantValue := 0 }]
  methods := #[k2m0, k2m1]
  instanceTypes := #[(.object "com/example/planter/planter/task/Atom"), .int, (.array .int), .int, .int]
  staticTypes := #[]
  resolved := Array.replicate 46 none
  statics := none }

def pool3 : Array CpInfo := pool [(2, .class_ 4), (1, u "java/lang/Object"), (0, u "<init>"), (0, u "()V"), (3, .class_ 12), (1, u "com/example/planter/planter/ground/FactTable"), (0, u "slots"), (0, u "[Lcom/example/planter/planter/ground/ReachedFact;"), (5, u "facts"), (0, u "Ljava/util/List;"), (0, .integer 2654435769), (2, u "hash"), (0, u "(I[I)I")] 47

def k3m0 : Method := { name := "<init>", desc := "()V", sig := { parameters := [], returnType := none }, accessFlags := 0, code := none }
def k3c1 : Code := { maxStack := 3, maxLocals := 7, code := prog_21_method_2_code, exceptionTable := #[], attributes := #[] }
def k3m1 : Method := { name := "hash", desc := "(I[I)I", sig := { parameters := [.int, (.array .int)], returnType := some .int }, accessFlags := 8, code := some k3c1 }
/-- com/example/planter/planter/ground/FactTable -/
def k3 : Class := { plain "com/example/planter/planter/ground/FactTable" (some 0) with
  accessFlags := 48
  interfaces := #[]
  cf := some (fileOf pool3 10 #[] #[{ accessFlags := 0, nameIndex := 5, descriptorIndex := 6, attributes := #[] }, { accessFlags := 8, nameIndex := 25, descriptorIndex := 26, attributes := #[] }] 48 2 #[] #[{ accessFlags := 2, nameIndex := 13, descriptorIndex := 14, attributes := #[] }, { accessFlags := 18, nameIndex := 20, descriptorIndex := 21, attributes := #[] }])
  fields := #[{ name := "slots", type := (.array (.object "com/example/planter/planter/ground/ReachedFact")), accessFlags := 2, slot := 0, constantValue := 0 }, { name := "facts", type := (.object "java/util/List"), accessFlags := 18, slot := 1, constantValue := 0 }]
  methods := #[k3m0, k3m1]
  instanceTypes := #[(.array (.object "com/example/planter/planter/ground/ReachedFact")), (.object "java/util/List")]
  staticTypes := #[]
  resolved := Array.replicate 74 none
  statics := none }

def pool4 : Array CpInfo := pool [(1, u "java/lang/Cloneable"), (0, .class_ 1), (0, u "java/lang/Object"), (0, .class_ 3)] 3

/-- java/lang/Cloneable -/
def k4 : Class := { plain "java/lang/Cloneable" (some 0) with
  accessFlags := 1537
  interfaces := #[]
  cf := some (fileOf pool4 2 #[] #[] 1537 4 #[] #[])
  fields := #[]
  methods := #[]
  instanceTypes := #[]
  staticTypes := #[]
  resolved := Array.replicate 8 none
  statics := none }

def pool5 : Array CpInfo := pool [(1, u "java/io/Serializable"), (0, .class_ 1), (0, u "java/lang/Object"), (0, .class_ 3)] 3

/-- java/io/Serializable -/
def k5 : Class := { plain "java/io/Serializable" (some 0) with
  accessFlags := 1537
  interfaces := #[]
  cf := some (fileOf pool5 2 #[] #[] 1537 4 #[] #[])
  fields := #[]
  methods := #[]
  instanceTypes := #[]
  staticTypes := #[]
  resolved := Array.replicate 8 none
  statics := none }

/-- the primitive byte -/
def k6 : Class := { plain "byte" none with kind := .primitive 'B', accessFlags := 0x411 }
/-- [B -/
def k7 : Class := { plain "[B" (some 0) with kind := .array 6 .byte, interfaces := #[4, 5], accessFlags := 1041 }

/-- the primitive int -/
def k8 : Class := { plain "int" none with kind := .primitive 'I', accessFlags := 0x411 }
/-- [I -/
def k9 : Class := { plain "[I" (some 0) with kind := .array 8 .int, interfaces := #[4, 5], accessFlags := 1041 }

def heap : Heap := #[]
def classes : Array Class := #[k0, k1, k2, k3, k4, k5, k6, k7, k8, k9]
def interned : List (Array UInt16 × Addr) := []
def slotsUsed : Nat := 0
def theMethod : MethodId := ⟨1, 2⟩
def args0 : Array Value := #[.int 5, .int 5, .int 5, .int 5, .int 5, .int 5]
def aboutOver (below : List Frame) : State where
  vm := { classes := classes, interned := interned.toArray }
  heap := heap
  slotsUsed := slotsUsed
  threads := #[{ frames := .invoking theMethod args0 :: below }]
def below0 : List Frame := [.native { method := ⟨0, 0⟩, args := #[] }]
def about1 : State := aboutOver below0
def p0 : Program := .bare "" "" ""
def e0 : Env := launch0.env 0 0 0
theorem w_frames : about1.frames = Frame.invoking theMethod args0 :: below0 := rfl
set_option maxRecDepth 65536 in
theorem w_args : argsFit about1.vm theMethod args0 = true := by decide +kernel
set_option maxRecDepth 65536 in
theorem w_heap : heapFits about1 = true := by decide +kernel
set_option maxRecDepth 65536 in
theorem w_runnable : about1.curStatus? = some .runnable := by decide +kernel
set_option maxRecDepth 65536 in
theorem w_alone : about1.alone = true := by decide +kernel
set_option maxRecDepth 65536 in
theorem w_named : about1.methodNamed? x = some theMethod := by decide +kernel
set_option maxRecDepth 65536 in
theorem w_hears : about1.hears theMethod below0 = true := by decide +kernel
set_option maxRecDepth 65536 in
theorem w_ripe : about1.ripe theMethod args0 below0 = true := by decide +kernel
theorem w_running : about1.status = .running := rfl
set_option maxRecDepth 65536 in
theorem w_room : about1.hasRoom e0.platform room_1 = true :=
  launch0.hasRoom_least _ room_1 (by decide +kernel) (by decide +kernel) (by decide +kernel) (by decide +kernel) (by decide +kernel) (by decide +kernel)
theorem allAtoms_all (ts : List Jvm.Cond) (a : Array Jvm.Value) (st : Jvm.State) : (allAtoms ts).before a st = ts.all (fun c => c.before a st) := by
  induction ts with
  | nil => rfl
  | cons c t ih =>
    show (Jvm.Cond.and c (allAtoms t)).before a st = _
    rw [Jvm.Cond.before_and, ih, List.all_cons]
def words1 : List Jvm.Cond := Jvm.Cond.code x code maxLocals ret :: tables_1
/-- a 'code' word, met by the world's own term for the bytes: nothing is compared byte by byte -/
theorem code_word {y : MethodName} {bytes : ByteArray} {mx : Nat} {rt : Option FieldType} {a : Array Value} {s : State} {m : MethodId} {meth : Method} {c : Code} (h1 : s.methodNamed? y = some m) (h2 : s.vm.method? m = some meth) (h3 : meth.code = some c) (h4 : c.code = bytes)
    (h5 : (c.maxLocals == mx && c.exceptionTable.isEmpty && decide (c.maxStack ≤ mostOperands) && decide (meth.sig.returnType = rt) && !meth.locks && decide (parseMethodDescriptor y.desc = some meth.sig)) = true) : (Jvm.Cond.code y bytes mx rt).before a s = true := by
  simp only [Bool.and_eq_true, beq_iff_eq, Bool.not_eq_true', decide_eq_true_eq] at h5
  obtain ⟨⟨⟨⟨⟨g1, g2⟩, g3⟩, g4⟩, g5⟩, g6⟩ := h5
  simp [Cond.before, Cond.holds, Cond.value, h1, h2, h3, h4, g1, g2, g3, g4, g5, g6]
def isCode : Jvm.Cond → Bool
  | .code _ _ _ _ => true
  | _ => false
theorem all_split {L : List Jvm.Cond} {P : Jvm.Cond → Bool} (h1 : L.all (fun c => isCode c || P c) = true) (h2 : ∀ c ∈ L.filter isCode, P c = true) : L.all P = true := by
  refine List.all_eq_true.mpr fun c hc => ?_
  have h := List.all_eq_true.mp h1 c hc
  rcases Bool.eq_false_or_eq_true (isCode c) with hi | hi
  · exact h2 c (List.mem_filter.mpr ⟨hc, hi⟩)
  · simpa [hi] using h
set_option maxRecDepth 65536 in
theorem w_c0 : (Jvm.Cond.code x code maxLocals ret).before args0 about1 = true := code_word (m := ⟨1, 2⟩) (meth := k1m2) (c := k1c2) (by decide +kernel) rfl rfl rfl (by decide +kernel)
set_option maxRecDepth 65536 in
theorem w_c1 : (Jvm.Cond.code ({ cls := "com/example/planter/planter/ground/ReachedFactIsPinLaw", name := "make", desc := "(IIII)[I" } : Jvm.MethodName) method_2_code (4 : Nat) (Option.some (Jvm.ClassFile.FieldType.array Jvm.ClassFile.FieldType.int))).before args0 about1 = true := code_word (m := ⟨1, 1⟩) (meth := k1m1) (c := k1c1) (by decide +kernel) rfl rfl rfl (by decide +kernel)
set_option maxRecDepth 65536 in
theorem w_c2 : (Jvm.Cond.code ({ cls := "com/example/planter/planter/ground/ReachedFact", name := "<init>", desc := "(Lcom/example/planter/planter/task/Atom;I[I)V" } : Jvm.MethodName) prog_37_method_1_code (4 : Nat) (Option.none : Option Jvm.ClassFile.FieldType)).before args0 about1 = true := code_word (m := ⟨2, 0⟩) (meth := k2m0) (c := k2c0) (by decide +kernel) rfl rfl rfl (by decide +kernel)
set_option maxRecDepth 65536 in
theorem w_c3 : (Jvm.Cond.code ({ cls := "java/lang/Object", name := "<init>", desc := "()V" } : Jvm.MethodName) object_method_1_code (1 : Nat) (Option.none : Option Jvm.ClassFile.FieldType)).before args0 about1 = true := code_word (m := ⟨0, 0⟩) (meth := k0m0) (c := k0c0) (by decide +kernel) rfl rfl rfl (by decide +kernel)
set_option maxRecDepth 65536 in
theorem w_c4 : (Jvm.Cond.code ({ cls := "com/example/planter/planter/ground/FactTable", name := "hash", desc := "(I[I)I" } : Jvm.MethodName) prog_21_method_2_code (7 : Nat) (Option.some Jvm.ClassFile.FieldType.int)).before args0 about1 = true := code_word (m := ⟨3, 1⟩) (meth := k3m1) (c := k3c1) (by decide +kernel) rfl rfl rfl (by decide +kernel)
set_option maxRecDepth 65536 in
theorem w_c5 : (Jvm.Cond.code ({ cls := "com/example/planter/planter/ground/ReachedFact", name := "is", desc := "(I[I)Z" } : Jvm.MethodName) prog_37_method_6_code (4 : Nat) (Option.some Jvm.ClassFile.FieldType.boolean)).before args0 about1 = true := code_word (m := ⟨2, 1⟩) (meth := k2m1) (c := k2c1) (by decide +kernel) rfl rfl rfl (by decide +kernel)
def codes1 : List Jvm.Cond := [Jvm.Cond.code x code maxLocals ret, Jvm.Cond.code ({ cls := "com/example/planter/planter/ground/ReachedFactIsPinLaw", name := "make", desc := "(IIII)[I" } : Jvm.MethodName) method_2_code (4 : Nat) (Option.some (Jvm.ClassFile.FieldType.array Jvm.ClassFile.FieldType.int)), Jvm.Cond.code ({ cls := "com/example/planter/planter/ground/ReachedFact", name := "<init>", desc := "(Lcom/example/planter/planter/task/Atom;I[I)V" } : Jvm.MethodName) prog_37_method_1_code (4 : Nat) (Option.none : Option Jvm.ClassFile.FieldType), Jvm.Cond.code ({ cls := "java/lang/Object", name := "<init>", desc := "()V" } : Jvm.MethodName) object_method_1_code (1 : Nat) (Option.none : Option Jvm.ClassFile.FieldType), Jvm.Cond.code ({ cls := "com/example/planter/planter/ground/FactTable", name := "hash", desc := "(I[I)I" } : Jvm.MethodName) prog_21_method_2_code (7 : Nat) (Option.some Jvm.ClassFile.FieldType.int), Jvm.Cond.code ({ cls := "com/example/planter/planter/ground/ReachedFact", name := "is", desc := "(I[I)Z" } : Jvm.MethodName) prog_37_method_6_code (4 : Nat) (Option.some Jvm.ClassFile.FieldType.boolean)]
set_option maxRecDepth 65536 in
theorem codes_eq : words1.filter isCode = codes1 := rfl
theorem w_codes : ∀ c ∈ words1.filter isCode, c.before args0 about1 = true := by
  rw [codes_eq]
  intro c hc
  simp only [codes1, List.mem_cons, List.not_mem_nil, or_false] at hc
  rcases hc with rfl | rfl | rfl | rfl | rfl | rfl
  · exact w_c0
  · exact w_c1
  · exact w_c2
  · exact w_c3
  · exact w_c4
  · exact w_c5
set_option maxRecDepth 65536 in
theorem w_t1 : (words1.take 24).all (fun c => isCode c || c.before args0 about1) = true := by decide +kernel
set_option maxRecDepth 65536 in
theorem w_t2 : (words1.drop 24).all (fun c => isCode c || c.before args0 about1) = true := by decide +kernel
theorem w_tables : (allAtoms (Jvm.Cond.code x code maxLocals ret :: tables_1)).before args0 about1 = true := by
  rw [allAtoms_all]
  show words1.all (fun c => c.before args0 about1) = true
  refine all_split ?_ w_codes
  rw [← List.take_append_drop 24 words1, List.all_append, w_t1, w_t2]
  rfl
set_option maxRecDepth 65536 in
theorem w_case : (Jvm.Cond.and given_1 narrow_1).before args0 about1 = true := by decide +kernel
theorem w_applies : (headSpec (Jvm.Cond.code x code maxLocals ret :: tables_1) room_1).applies x e0.platform about1 = true :=
  (Spec.applies_iff w_frames).mpr ⟨w_running, w_runnable, w_alone, w_named, w_hears, w_ripe, w_room, w_tables⟩
theorem atStart : AtStart classFile x code maxLocals ret World_1 tables_1 room_1 Calls_1 rest_1 Pre_1 launch0 p0 e0 about1 theMethod args0 below0 :=
  ⟨lists_1, trivial, launch0.admits_env _ _ _, launch0.least_env, fairChoices_fair.cas, fairChoices_fair.clock, w_frames, w_args, w_heap, w_applies, trivial, trivial, w_case⟩
end start1
theorem witness_1 : WitnessClaimed_1 := ⟨start1.p0, start1.e0, start1.about1, start1.theMethod, start1.args0, start1.below0, start1.atStart⟩
end Jvm.Pilot.@@N@@
