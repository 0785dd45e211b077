import JvmDerived
import JvmDerived.Pilot.@@N@@Statement
import JvmDerived.Pilot.@@N@@Code
set_option linter.unusedVariables false
set_option linter.unusedSimpArgs false
@@BLOCK:NumsL.lean.txt@@
namespace Jvm.Own
open Sem ClassFile Op Lib Jvm.Stand Jvm.Free Jvm.LawKit Jvm.RoadKit
/-- what is known of one object made since the law began: an array with all its values, or an object with some of its fields -/
abbrev D : Type := Sum (FieldType × List Value) (String × List ((String × String × String) × Value))
abbrev Hp : Type := List (Nat × D)
abbrev ia (xs : List Int32) : D := .inl (.int, xs.map Value.int)
abbrev la (xs : List Int64) : D := .inl (.long, xs.map Value.long)
abbrev ba (xs : List Int32) : D := .inl (.byte, xs.map Value.int)
def OkD (Z : State) (h : Heap) (a : Nat) (d : D) : Prop :=
  match d with
  | .inl q => ∃ c : Cell, Arr Z h a c q.1 ∧ c.slots = q.2.toArray ∧ Exa Z h a ("[" ++ q.1.toString)
  | .inr q => Exa Z h a q.1 ∧ ∀ (j : Nat) (f : (String × String × String) × Value), q.2[j]? = some f → Fld Z h a f.1.1 f.1.2.1 f.1.2.2 f.2
def HL (Z : State) (h0 : Heap) (ds : Hp) (h : Heap) : Prop :=
  Ext h0 h ∧ (∀ (i : Nat) (q : Nat × D), ds[i]? = some q → h0.size ≤ q.1 ∧ OkD Z h q.1 q.2) ∧ ∀ (i j : Nat) (q r : Nat × D), ds[i]? = some q → ds[j]? = some r → q.1 = r.1 → i = j
theorem OkD.lt {Z : State} {h : Heap} {a : Nat} {d : D} (O : OkD Z h a d) : a < h.size := by
  cases d with
  | inl q => obtain ⟨c, A, -⟩ := O; exact A.lt
  | inr q => exact O.1.lt
theorem OkD.ext {Z : State} {h h' : Heap} {a : Nat} {d : D} (E : Ext h h') (O : OkD Z h a d) : OkD Z h' a d := by
  cases d with
  | inl q => obtain ⟨c, A, S, X⟩ := O; exact ⟨c, A.ext E, S, X.ext E⟩
  | inr q => exact ⟨O.1.ext E, fun j f hf => (O.2 j f hf).ext E⟩
theorem OkD.other {Z : State} {h h' : Heap} {a b : Nat} {d : D} {sl : Nat} {v : Value} (W : Wr h h' a sl v) (O : OkD Z h b d) (hne : b ≠ a) : OkD Z h' b d := by
  cases d with
  | inl q => obtain ⟨c, A, S, X⟩ := O; exact ⟨c, A.other W hne, S, X.wr W⟩
  | inr q => exact ⟨O.1.wr W, fun j f hf => (O.2 j f hf).other W (Or.inl hne)⟩
theorem HL.nil (Z : State) (h0 : Heap) : HL Z h0 [] h0 :=
  ⟨⟨Nat.le_refl _, fun _ _ q => q⟩, fun i q hq => by simp at hq, fun i j q r hq => by simp at hq⟩
theorem HL.lts {Z : State} {h0 h : Heap} {ds : Hp} (H : HL Z h0 ds h) : ∀ q ∈ ds, q.1 < h.size := fun q hq => by
  obtain ⟨i, hi⟩ := List.mem_iff_getElem?.mp hq
  exact (H.2.1 i q hi).2.lt
theorem HL.new {Z : State} {h0 h h' : Heap} {ds : Hp} {d : D} (H : HL Z h0 ds h) (E : Ext h h') (O : OkD Z h' h.size d) : HL Z h0 (ds ++ [(h.size, d)]) h' := by
  refine ⟨⟨Nat.le_trans H.1.1 E.1, fun a c q => E.2 a c (H.1.2 a c q)⟩, fun i q hq => ?_, fun i j q r hq hr he => ?_⟩
  · rcases Nat.lt_or_ge i ds.length with hi | hi
    · rw [List.getElem?_append_left hi] at hq
      exact ⟨(H.2.1 i q hq).1, (H.2.1 i q hq).2.ext E⟩
    · rw [List.getElem?_append_right hi] at hq
      obtain ⟨hz, rfl⟩ : i - ds.length = 0 ∧ (h.size, d) = q := by
        rcases Nat.eq_zero_or_pos (i - ds.length) with z | z
        · rw [z] at hq; exact ⟨z, by simpa using hq⟩
        · rw [List.getElem?_eq_none (by simp; omega)] at hq; cases hq
      exact ⟨H.1.1, O⟩
  · have key : ∀ i (q : Nat × D), (ds ++ [(h.size, d)])[i]? = some q → (i < ds.length ∧ ds[i]? = some q ∧ q.1 < h.size) ∨ (i = ds.length ∧ q.1 = h.size) := fun i q hq => by
      rcases Nat.lt_or_ge i ds.length with hi | hi
      · rw [List.getElem?_append_left hi] at hq
        exact Or.inl ⟨hi, hq, (H.2.1 i q hq).2.lt⟩
      · rw [List.getElem?_append_right hi] at hq
        rcases Nat.eq_zero_or_pos (i - ds.length) with z | z
        · rw [z] at hq
          have e : (h.size, d) = q := by simpa using hq
          exact Or.inr ⟨by omega, by rw [← e]⟩
        · rw [List.getElem?_eq_none (by simp; omega)] at hq; cases hq
    rcases key i q hq with ⟨-, a2, a3⟩ | ⟨a1, a2⟩ <;> rcases key j r hr with ⟨-, b2, b3⟩ | ⟨b1, b2⟩
    · exact H.2.2 i j q r a2 b2 he
    · omega
    · omega
    · omega
theorem HL.set {Z : State} {h0 h h' : Heap} {ds : Hp} {i a sl : Nat} {d d' : D} {v : Value} (H : HL Z h0 ds h) (ha : ds[i]? = some (a, d)) (W : Wr h h' a sl v) (O : OkD Z h' a d') : HL Z h0 (ds.set i (a, d')) h' := by
  have hge := (H.2.1 i _ ha).1
  have hi : i < ds.length := (List.getElem?_eq_some_iff.mp ha).1
  have key : ∀ j (q : Nat × D), (ds.set i (a, d'))[j]? = some q → (j = i ∧ q = (a, d')) ∨ (j ≠ i ∧ ds[j]? = some q) := fun j q hq => by
    rw [List.getElem?_set] at hq
    by_cases e : i = j
    · subst e; rw [if_pos rfl, if_pos hi] at hq; exact Or.inl ⟨rfl, (Option.some.inj hq).symm⟩
    · rw [if_neg e] at hq; exact Or.inr ⟨fun x => e x.symm, hq⟩
  refine ⟨⟨by rw [W.size]; exact H.1.1, fun b c q => ?_⟩, fun j q hq => ?_, fun j k q r hq hr he => ?_⟩
  · have hb := H.1.2 b c q
    obtain ⟨c', e1, -, -, -, e5, -⟩ := wr_at W hb
    have hlt : b < h0.size := (Array.getElem?_eq_some_iff.mp q).1
    rw [← e5 (fun e => by subst e; exact absurd hlt (Nat.not_lt.mpr hge))]; exact e1
  · rcases key j q hq with ⟨-, rfl⟩ | ⟨hne, hq'⟩
    · exact ⟨hge, O⟩
    · exact ⟨(H.2.1 j q hq').1, (H.2.1 j q hq').2.other W fun e => hne (H.2.2 j i q _ hq' ha e)⟩
  · have ad : ∀ j (q : Nat × D), (ds.set i (a, d'))[j]? = some q → ∃ q' : Nat × D, ds[j]? = some q' ∧ q'.1 = q.1 := fun j q hq => by
      rcases key j q hq with ⟨rfl, rfl⟩ | ⟨-, hq'⟩
      · exact ⟨_, ha, rfl⟩
      · exact ⟨q, hq', rfl⟩
    obtain ⟨q', a1, a2⟩ := ad j q hq
    obtain ⟨r', b1, b2⟩ := ad k r hr
    exact H.2.2 j k q' r' a1 b1 (by rw [a2, b2]; exact he)
abbrev Cx : Type := Program × Launch × Env × Room × State × MethodId × Array Value × List Frame × Method × Code × State × Heap
/-- FROM HERE THE BODY RUNS TO ITS RETURN, and what it returns and leaves is as Q says -/
def Go (W : Cx) (Q : Option Value → Hp → Prop) (ds : Hp) (k n pc : Nat) (Ls : Array Slot) (st : List Value) : Prop :=
  match W with
  | (p, l, e, R, s, m, args, below, meth, c, Z, h0) =>
    ∀ (T : State) (L : List Loc), Fr h0.size L → Stand p l e R s m args below meth c T L k n → HL Z h0 ds T.heap →
      ∃ (s₂ : State) (v : Option Value), Steps p.tables e below (T.setTop (mkF m pc Ls st)) s₂ ∧ s₂.status = .running ∧ Ended s₂ below (.returned v) ∧
        ∃ (L' : List Loc) (ds' : Hp), Fr h0.size L' ∧ HL Z h0 ds' s₂.heap ∧ Q v ds' ∧ FrameEnd s (.returned v) s₂ L' R.cells R.slots
/-- what a body's walk knows -/
def Ok (W : Cx) (B : ByteArray) (y : MethodName) (rm : Room) (mL : Nat) (ret : Option FieldType) (l : Launch) (Z : State) (h0 : Heap) : Prop :=
  match W with
  | (p, l', _, R, s, m, _, _, meth, c, Z', h0') => p.tables.exec = Jvm.exec ∧ Z.Warmed39 s.vm ∧ c.code = B ∧ c.maxLocals = mL ∧ s.vm.findClass y.cls = some m.cls ∧ meth.sig.returnType = ret ∧ meth.locks = false ∧ meth.name = y.name ∧ R = rm ∧ l' = l ∧ Z' = Z ∧ h0' = h0
def Ct (l : Launch) (Z : State) (h0 : Heap) (y : MethodName) (B : ByteArray) (mL : Nat) (ret : Option FieldType) (ws : List Jvm.Cond) (rm : Room) (as : Array Value) (ds : Hp) (Q : Option Value → Hp → Prop) : Prop :=
  ∀ h, HL Z h0 ds h → MetFree l y (head1 (Jvm.Cond.code y B mL ret :: ws) rm) (fun a U => a = as ∧ Z.Warmed39 U.vm ∧ U.heap = h) (fun _ _ _ _ _ => True)
    (fun _ U o U' => ∃ v L, o = .returned v ∧ (Fr h0.size L ∧ ∃ ds', HL Z h0 ds' U'.heap ∧ Q v ds') ∧ FrameEnd U o U' L rm.cells rm.slots)
theorem Ct.of_go {l : Launch} {Z : State} {h0 : Heap} {y : MethodName} {B : ByteArray} {mL : Nat} {ret : Option FieldType} {ws : List Jvm.Cond} {rm : Room} {as : Array Value} {ds : Hp} {Q : Option Value → Hp → Prop} {Ls : Array Slot}
    (hpn : plainFor y = true) (ef : ∀ m, entryFrame m as mL = mkF m 0 Ls []) (body : ∀ W, Ok W B y rm mL ret l Z h0 → Go W Q ds 0 0 0 Ls []) : Ct l Z h0 y B mL ret ws rm as ds Q := by
  intro h H
  refine MetFree.of_bodySF hpn hisR ?_
  intro p e s m args below meth c s₁ Bd hml0 hP hK
  obtain ⟨rfl, hZ, hh⟩ := hP
  have X0 : Stand p l e rm s m args below meth c s₁ [] 0 0 := Stand.of_body Bd
  have e0 : s₁.heap = h := by rw [← hh, Bd.state]; rfl
  obtain ⟨s₂, v, h1, h2, h3, L', ds', h4, h5, h6, h7⟩ := body (p, l, e, rm, s, m, args, below, meth, c, Z, h0) ⟨Bd.exec, hZ, Bd.bytes, hml0, findClass_of_methodNamed Bd.named, Bd.returns, Bd.notSynchronized, (name_of_methodNamed Bd.named Bd.method).1, rfl, rfl, rfl, rfl⟩ s₁ [] (Fr.nil _) X0 (by rw [e0]; exact H)
  exact ⟨s₂, .returned v, castTop (ef m) h1, h2, h3, v, L', rfl, ⟨h4, ds', h5, h6⟩, h7⟩
theorem Ct.mono {l : Launch} {Z : State} {h0 : Heap} {y : MethodName} {B : ByteArray} {mL : Nat} {ret : Option FieldType} {ws : List Jvm.Cond} {rm : Room} {as : Array Value} {ds : Hp} {Q Q' : Option Value → Hp → Prop}
    (h : Ct l Z h0 y B mL ret ws rm as ds Q) (f : ∀ v ds', Q v ds' → Q' v ds') : Ct l Z h0 y B mL ret ws rm as ds Q' := by
  intro hp H p e ha hc hk s m args below hf happ hP hK
  obtain ⟨n, o, h1, h2, h3, v, L, h4, ⟨h5, ds', h6, h7⟩, h8⟩ := h hp H p e ha hc hk s m args below hf happ hP hK
  exact ⟨n, o, h1, h2, h3, v, L, h4, ⟨h5, ds', h6, f _ _ h7⟩, h8⟩
section Steps
variable {W : Cx} {B : ByteArray} {y : MethodName} {rm : Room} {mL : Nat} {ret : Option FieldType} {l : Launch} {Z : State} {h0 : Heap} {Q : Option Value → Hp → Prop} {ds : Hp} {k n pc pc' : Nat} {Ls Ls' : Array Slot} {st st' : List Value} {a0 : Array Value}
theorem Go.mono {Q' : Option Value → Hp → Prop} (g : Go W Q ds k n pc Ls st) (f : ∀ v ds', Q v ds' → Q' v ds') : Go W Q' ds k n pc Ls st := by
  obtain ⟨p, l, e, R, s, m, args, below, meth, c, Z, h0⟩ := W
  intro T L N X H
  obtain ⟨s₂, v, h1, h2, h3, L', ds', h4, h5, h6, h7⟩ := g T L N X H
  exact ⟨s₂, v, h1, h2, h3, L', ds', h4, h5, f _ _ h6, h7⟩
theorem go_of (K : Ok W B y rm mL ret l Z h0)
    (f : ∀ {p : Program} {l : Launch} {e : Env} {R : Room} {s : State} {m : MethodId} {args : Array Value} {below : List Frame} {meth : Method} {c : Code} {T : State} {L : List Loc}, p.tables.exec = Jvm.exec → c.code = B → s.vm.findClass y.cls = some m.cls → Z.Warmed39 s.vm →
      Stand p l e R s m args below meth c T L k n → ∀ t, Steps p.tables e below (T.setTop (mkF m pc' Ls' st')) t → Steps p.tables e below (T.setTop (mkF m pc Ls st)) t)
    (hr : Go W Q ds k n pc' Ls' st') : Go W Q ds k n pc Ls st := by
  obtain ⟨p, l, e, R, s, m, args, below, meth, c, Z, h0⟩ := W
  obtain ⟨k1, k2, k3, k4, k5, k6, k7, k8, rfl, rfl, rfl, rfl⟩ := K
  intro T L N X H
  obtain ⟨s₂, v, h1, rest⟩ := hr T L N X H
  exact ⟨s₂, v, f k1 k3 k5 k2 X s₂ h1, rest⟩

theorem go_iload (K : Ok W B y rm mL ret l Z h0) {i : Nat} {v : Int32} (hd : decode B pc = .ok (.iload i, 2)) (hl : Ls[i]? = some (.val (.int v))) (hp : pc + 2 = pc')
    (hr : Go W Q ds k n pc' Ls (.int v :: st)) : Go W Q ds k n pc Ls st := by
  subst hp
  exact go_of K (fun hx hby hown hZ X t h => XS.iload X.here hx rfl (hb hby hd) hl h) hr
theorem go_aload (K : Ok W B y rm mL ret l Z h0) {i : Nat} {v : Value} (hd : decode B pc = .ok (.aload i, 2)) (hl : Ls[i]? = some (.val v)) (hv : v.isRef = true) (hp : pc + 2 = pc')
    (hr : Go W Q ds k n pc' Ls (v :: st)) : Go W Q ds k n pc Ls st := by
  subst hp
  exact go_of K (fun hx hby hown hZ X t h => XS.aload X.here hx rfl (hb hby hd) hl hv h) hr
theorem go_lload (K : Ok W B y rm mL ret l Z h0) {i : Nat} {v : Int64} (hd : decode B pc = .ok (.lload i, 2)) (hl : Ls[i]? = some (.val (.long v))) (hp : pc + 2 = pc')
    (hr : Go W Q ds k n pc' Ls (.long v :: st)) : Go W Q ds k n pc Ls st := by
  subst hp
  exact go_of K (fun hx hby hown hZ X t h => XT.lload X.here hx rfl (hb hby hd) hl h) hr
theorem go_istore (K : Ok W B y rm mL ret l Z h0) {i : Nat} {x : Int32} (hd : decode B pc = .ok (.istore i, 2)) (hl : storeLocals Ls i (.int x) = some Ls') (hp : pc + 2 = pc')
    (hr : Go W Q ds k n pc' Ls' st) : Go W Q ds k n pc Ls (.int x :: st) := by
  subst hp
  exact go_of K (fun hx hby hown hZ X t h => XS.istore X.here hx rfl (hb hby hd) rfl hl h) hr
theorem go_astore (K : Ok W B y rm mL ret l Z h0) {i : Nat} {x : Value} (hd : decode B pc = .ok (.astore i, 2)) (hv : x.isRef = true) (hl : storeLocals Ls i x = some Ls') (hp : pc + 2 = pc')
    (hr : Go W Q ds k n pc' Ls' st) : Go W Q ds k n pc Ls (x :: st) := by
  subst hp
  exact go_of K (fun hx hby hown hZ X t h => XS.astore X.here hx rfl (hb hby hd) rfl hv hl h) hr
theorem go_lstore (K : Ok W B y rm mL ret l Z h0) {i : Nat} {x : Int64} (hd : decode B pc = .ok (.lstore i, 2)) (hl : storeLocals Ls i (.long x) = some Ls') (hp : pc + 2 = pc')
    (hr : Go W Q ds k n pc' Ls' st) : Go W Q ds k n pc Ls (.long x :: st) := by
  subst hp
  exact go_of K (fun hx hby hown hZ X t h => XT.lstore X.here hx rfl (hb hby hd) rfl hl h) hr
theorem go_iloadN (K : Ok W B y rm mL ret l Z h0) {i : Fin 4} {v : Int32} (hd : decode B pc = .ok (.iload_n i, 1)) (hl : Ls[i.val]? = some (.val (.int v))) (hp : pc + 1 = pc')
    (hr : Go W Q ds k n pc' Ls (.int v :: st)) : Go W Q ds k n pc Ls st := by
  subst hp
  exact go_of K (fun hx hby hown hZ X t h => XS.iloadN X.here hx rfl (hb hby hd) hl h) hr
theorem go_aloadN (K : Ok W B y rm mL ret l Z h0) {i : Fin 4} {v : Value} (hd : decode B pc = .ok (.aload_n i, 1)) (hl : Ls[i.val]? = some (.val v)) (hv : v.isRef = true) (hp : pc + 1 = pc')
    (hr : Go W Q ds k n pc' Ls (v :: st)) : Go W Q ds k n pc Ls st := by
  subst hp
  exact go_of K (fun hx hby hown hZ X t h => XS.aloadN X.here hx rfl (hb hby hd) hl hv h) hr
theorem go_lloadN (K : Ok W B y rm mL ret l Z h0) {i : Fin 4} {v : Int64} (hd : decode B pc = .ok (.lload_n i, 1)) (hl : Ls[i.val]? = some (.val (.long v))) (hp : pc + 1 = pc')
    (hr : Go W Q ds k n pc' Ls (.long v :: st)) : Go W Q ds k n pc Ls st := by
  subst hp
  exact go_of K (fun hx hby hown hZ X t h => XT.lloadN X.here hx rfl (hb hby hd) hl h) hr
theorem go_istoreN (K : Ok W B y rm mL ret l Z h0) {i : Fin 4} {x : Int32} (hd : decode B pc = .ok (.istore_n i, 1)) (hl : storeLocals Ls i.val (.int x) = some Ls') (hp : pc + 1 = pc')
    (hr : Go W Q ds k n pc' Ls' st) : Go W Q ds k n pc Ls (.int x :: st) := by
  subst hp
  exact go_of K (fun hx hby hown hZ X t h => XS.istoreN X.here hx rfl (hb hby hd) rfl hl h) hr
theorem go_astoreN (K : Ok W B y rm mL ret l Z h0) {i : Fin 4} {x : Value} (hd : decode B pc = .ok (.astore_n i, 1)) (hv : x.isRef = true) (hl : storeLocals Ls i.val x = some Ls') (hp : pc + 1 = pc')
    (hr : Go W Q ds k n pc' Ls' st) : Go W Q ds k n pc Ls (x :: st) := by
  subst hp
  exact go_of K (fun hx hby hown hZ X t h => XS.astoreN X.here hx rfl (hb hby hd) rfl hv hl h) hr
theorem go_lstoreN (K : Ok W B y rm mL ret l Z h0) {i : Fin 4} {x : Int64} (hd : decode B pc = .ok (.lstore_n i, 1)) (hl : storeLocals Ls i.val (.long x) = some Ls') (hp : pc + 1 = pc')
    (hr : Go W Q ds k n pc' Ls' st) : Go W Q ds k n pc Ls (.long x :: st) := by
  subst hp
  exact go_of K (fun hx hby hown hZ X t h => XT.lstoreN X.here hx rfl (hb hby hd) rfl hl h) hr
theorem go_iconst (K : Ok W B y rm mL ret l Z h0) {i : Int} {v : Int32} (hd : decode B pc = .ok (.iconst i, 1)) (hv : Int32.ofInt i = v) (hp : pc + 1 = pc')
    (hr : Go W Q ds k n pc' Ls (.int v :: st)) : Go W Q ds k n pc Ls st := by
  subst hp
  exact go_of K (fun hx hby hown hZ X t h => XT.iconstV X.here hx rfl v (hb hby hd) hv h) hr
theorem go_bipush (K : Ok W B y rm mL ret l Z h0) {i : Int} {v : Int32} (hd : decode B pc = .ok (.bipush i, 2)) (hv : (Int8.ofInt i).toInt32 = v) (hp : pc + 2 = pc')
    (hr : Go W Q ds k n pc' Ls (.int v :: st)) : Go W Q ds k n pc Ls st := by
  subst hp
  exact go_of K (fun hx hby hown hZ X t h => XT.bipushV X.here hx rfl v (hb hby hd) hv h) hr
theorem go_sipush (K : Ok W B y rm mL ret l Z h0) {i : Int} {v : Int32} (hd : decode B pc = .ok (.sipush i, 3)) (hv : (Int16.ofInt i).toInt32 = v) (hp : pc + 3 = pc')
    (hr : Go W Q ds k n pc' Ls (.int v :: st)) : Go W Q ds k n pc Ls st := by
  subst hp
  exact go_of K (fun hx hby hown hZ X t h => XT.sipushV X.here hx rfl v (hb hby hd) hv h) hr
theorem go_lconst (K : Ok W B y rm mL ret l Z h0) {i : Fin 2} {v : Int64} (hd : decode B pc = .ok (.lconst i, 1)) (hv : Int64.ofNat i = v) (hp : pc + 1 = pc')
    (hr : Go W Q ds k n pc' Ls (.long v :: st)) : Go W Q ds k n pc Ls st := by
  subst hp
  exact go_of K (fun hx hby hown hZ X t h => XT.lconstV X.here hx rfl v (hb hby hd) hv h) hr
theorem go_null (K : Ok W B y rm mL ret l Z h0)  (hd : decode B pc = .ok (.aconst_null, 1))  (hp : pc + 1 = pc')
    (hr : Go W Q ds k n pc' Ls (.null :: st)) : Go W Q ds k n pc Ls st := by
  subst hp
  exact go_of K (fun hx hby hown hZ X t h => XS.aconstNull X.here hx rfl (hb hby hd) h) hr
theorem go_iadd (K : Ok W B y rm mL ret l Z h0) {x z : Int32} (hd : decode B pc = .ok (.iadd, 1))  (hp : pc + 1 = pc')
    (hr : Go W Q ds k n pc' Ls (.int (x + z) :: st)) : Go W Q ds k n pc Ls (.int z :: .int x :: st) := by
  subst hp
  exact go_of K (fun hx hby hown hZ X t h => XS.iadd X.here hx rfl (hb hby hd) rfl h) hr
theorem go_isub (K : Ok W B y rm mL ret l Z h0) {x z : Int32} (hd : decode B pc = .ok (.isub, 1))  (hp : pc + 1 = pc')
    (hr : Go W Q ds k n pc' Ls (.int (x - z) :: st)) : Go W Q ds k n pc Ls (.int z :: .int x :: st) := by
  subst hp
  exact go_of K (fun hx hby hown hZ X t h => XS.isub X.here hx rfl (hb hby hd) rfl h) hr
theorem go_imul (K : Ok W B y rm mL ret l Z h0) {x z : Int32} (hd : decode B pc = .ok (.imul, 1))  (hp : pc + 1 = pc')
    (hr : Go W Q ds k n pc' Ls (.int (x * z) :: st)) : Go W Q ds k n pc Ls (.int z :: .int x :: st) := by
  subst hp
  exact go_of K (fun hx hby hown hZ X t h => XS.imul X.here hx rfl (hb hby hd) rfl h) hr
theorem go_iand (K : Ok W B y rm mL ret l Z h0) {x z : Int32} (hd : decode B pc = .ok (.iand, 1))  (hp : pc + 1 = pc')
    (hr : Go W Q ds k n pc' Ls (.int (x &&& z) :: st)) : Go W Q ds k n pc Ls (.int z :: .int x :: st) := by
  subst hp
  exact go_of K (fun hx hby hown hZ X t h => XS.iand X.here hx rfl (hb hby hd) rfl h) hr
theorem go_ior (K : Ok W B y rm mL ret l Z h0) {x z : Int32} (hd : decode B pc = .ok (.ior, 1))  (hp : pc + 1 = pc')
    (hr : Go W Q ds k n pc' Ls (.int (x ||| z) :: st)) : Go W Q ds k n pc Ls (.int z :: .int x :: st) := by
  subst hp
  exact go_of K (fun hx hby hown hZ X t h => XT.ior X.here hx rfl (hb hby hd) rfl h) hr
theorem go_ixor (K : Ok W B y rm mL ret l Z h0) {x z : Int32} (hd : decode B pc = .ok (.ixor, 1))  (hp : pc + 1 = pc')
    (hr : Go W Q ds k n pc' Ls (.int (x ^^^ z) :: st)) : Go W Q ds k n pc Ls (.int z :: .int x :: st) := by
  subst hp
  exact go_of K (fun hx hby hown hZ X t h => XT.ixor X.here hx rfl (hb hby hd) rfl h) hr
theorem go_ishl (K : Ok W B y rm mL ret l Z h0) {x z : Int32} (hd : decode B pc = .ok (.ishl, 1))  (hp : pc + 1 = pc')
    (hr : Go W Q ds k n pc' Ls (.int (x <<< (z &&& 31)) :: st)) : Go W Q ds k n pc Ls (.int z :: .int x :: st) := by
  subst hp
  exact go_of K (fun hx hby hown hZ X t h => XT.ishl X.here hx rfl (hb hby hd) rfl h) hr
theorem go_ishr (K : Ok W B y rm mL ret l Z h0) {x z : Int32} (hd : decode B pc = .ok (.ishr, 1))  (hp : pc + 1 = pc')
    (hr : Go W Q ds k n pc' Ls (.int (x >>> (z &&& 31)) :: st)) : Go W Q ds k n pc Ls (.int z :: .int x :: st) := by
  subst hp
  exact go_of K (fun hx hby hown hZ X t h => XT.ishr X.here hx rfl (hb hby hd) rfl h) hr
theorem go_iushr (K : Ok W B y rm mL ret l Z h0) {x z : Int32} (hd : decode B pc = .ok (.iushr, 1))  (hp : pc + 1 = pc')
    (hr : Go W Q ds k n pc' Ls (.int (XT.ushr x z) :: st)) : Go W Q ds k n pc Ls (.int z :: .int x :: st) := by
  subst hp
  exact go_of K (fun hx hby hown hZ X t h => XT.iushr X.here hx rfl (hb hby hd) rfl h) hr
theorem go_ladd (K : Ok W B y rm mL ret l Z h0) {x z : Int64} (hd : decode B pc = .ok (.ladd, 1))  (hp : pc + 1 = pc')
    (hr : Go W Q ds k n pc' Ls (.long (x + z) :: st)) : Go W Q ds k n pc Ls (.long z :: .long x :: st) := by
  subst hp
  exact go_of K (fun hx hby hown hZ X t h => XT.ladd X.here hx rfl (hb hby hd) rfl h) hr
theorem go_lsub (K : Ok W B y rm mL ret l Z h0) {x z : Int64} (hd : decode B pc = .ok (.lsub, 1))  (hp : pc + 1 = pc')
    (hr : Go W Q ds k n pc' Ls (.long (x - z) :: st)) : Go W Q ds k n pc Ls (.long z :: .long x :: st) := by
  subst hp
  exact go_of K (fun hx hby hown hZ X t h => XT.lsub X.here hx rfl (hb hby hd) rfl h) hr
theorem go_lmul (K : Ok W B y rm mL ret l Z h0) {x z : Int64} (hd : decode B pc = .ok (.lmul, 1))  (hp : pc + 1 = pc')
    (hr : Go W Q ds k n pc' Ls (.long (x * z) :: st)) : Go W Q ds k n pc Ls (.long z :: .long x :: st) := by
  subst hp
  exact go_of K (fun hx hby hown hZ X t h => XT.lmul X.here hx rfl (hb hby hd) rfl h) hr
theorem go_land (K : Ok W B y rm mL ret l Z h0) {x z : Int64} (hd : decode B pc = .ok (.land, 1))  (hp : pc + 1 = pc')
    (hr : Go W Q ds k n pc' Ls (.long (x &&& z) :: st)) : Go W Q ds k n pc Ls (.long z :: .long x :: st) := by
  subst hp
  exact go_of K (fun hx hby hown hZ X t h => XT.land X.here hx rfl (hb hby hd) rfl h) hr
theorem go_lor (K : Ok W B y rm mL ret l Z h0) {x z : Int64} (hd : decode B pc = .ok (.lor, 1))  (hp : pc + 1 = pc')
    (hr : Go W Q ds k n pc' Ls (.long (x ||| z) :: st)) : Go W Q ds k n pc Ls (.long z :: .long x :: st) := by
  subst hp
  exact go_of K (fun hx hby hown hZ X t h => XT.lor X.here hx rfl (hb hby hd) rfl h) hr
theorem go_lxor (K : Ok W B y rm mL ret l Z h0) {x z : Int64} (hd : decode B pc = .ok (.lxor, 1))  (hp : pc + 1 = pc')
    (hr : Go W Q ds k n pc' Ls (.long (x ^^^ z) :: st)) : Go W Q ds k n pc Ls (.long z :: .long x :: st) := by
  subst hp
  exact go_of K (fun hx hby hown hZ X t h => XT.lxor X.here hx rfl (hb hby hd) rfl h) hr
theorem go_lshl (K : Ok W B y rm mL ret l Z h0) {x : Int64} {z : Int32} (hd : decode B pc = .ok (.lshl, 1))  (hp : pc + 1 = pc')
    (hr : Go W Q ds k n pc' Ls (.long (x <<< (z.toInt64 &&& 63)) :: st)) : Go W Q ds k n pc Ls (.int z :: .long x :: st) := by
  subst hp
  exact go_of K (fun hx hby hown hZ X t h => XT.lshl X.here hx rfl (hb hby hd) rfl h) hr
theorem go_lshr (K : Ok W B y rm mL ret l Z h0) {x : Int64} {z : Int32} (hd : decode B pc = .ok (.lshr, 1))  (hp : pc + 1 = pc')
    (hr : Go W Q ds k n pc' Ls (.long (x >>> (z.toInt64 &&& 63)) :: st)) : Go W Q ds k n pc Ls (.int z :: .long x :: st) := by
  subst hp
  exact go_of K (fun hx hby hown hZ X t h => XT.lshr X.here hx rfl (hb hby hd) rfl h) hr
theorem go_lushr (K : Ok W B y rm mL ret l Z h0) {x : Int64} {z : Int32} (hd : decode B pc = .ok (.lushr, 1))  (hp : pc + 1 = pc')
    (hr : Go W Q ds k n pc' Ls (.long (XT.ushrL x z) :: st)) : Go W Q ds k n pc Ls (.int z :: .long x :: st) := by
  subst hp
  exact go_of K (fun hx hby hown hZ X t h => XT.lushr X.here hx rfl (hb hby hd) rfl h) hr
theorem go_idiv (K : Ok W B y rm mL ret l Z h0) {x z : Int32} (hd : decode B pc = .ok (.idiv, 1)) (hz : z ≠ 0) (hp : pc + 1 = pc')
    (hr : Go W Q ds k n pc' Ls (.int (x / z) :: st)) : Go W Q ds k n pc Ls (.int z :: .int x :: st) := by
  subst hp
  exact go_of K (fun hx hby hown hZ X t h => XS.idiv X.here hx rfl (hb hby hd) rfl hz h) hr
theorem go_irem (K : Ok W B y rm mL ret l Z h0) {x z : Int32} (hd : decode B pc = .ok (.irem, 1)) (hz : z ≠ 0) (hp : pc + 1 = pc')
    (hr : Go W Q ds k n pc' Ls (.int (x % z) :: st)) : Go W Q ds k n pc Ls (.int z :: .int x :: st) := by
  subst hp
  exact go_of K (fun hx hby hown hZ X t h => iremM X hx rfl (hb hby hd) rfl hz h) hr
theorem go_ldiv (K : Ok W B y rm mL ret l Z h0) {x z : Int64} (hd : decode B pc = .ok (.ldiv, 1)) (hz : z ≠ 0) (hp : pc + 1 = pc')
    (hr : Go W Q ds k n pc' Ls (.long (x / z) :: st)) : Go W Q ds k n pc Ls (.long z :: .long x :: st) := by
  subst hp
  exact go_of K (fun hx hby hown hZ X t h => XT.ldiv X.here hx rfl (hb hby hd) rfl hz h) hr
theorem go_ineg (K : Ok W B y rm mL ret l Z h0) {x : Int32} (hd : decode B pc = .ok (.ineg, 1))  (hp : pc + 1 = pc')
    (hr : Go W Q ds k n pc' Ls (.int (-x) :: st)) : Go W Q ds k n pc Ls (.int x :: st) := by
  subst hp
  exact go_of K (fun hx hby hown hZ X t h => XS.ineg X.here hx rfl (hb hby hd) rfl h) hr
theorem go_i2l (K : Ok W B y rm mL ret l Z h0) {x : Int32} (hd : decode B pc = .ok (.i2l, 1))  (hp : pc + 1 = pc')
    (hr : Go W Q ds k n pc' Ls (.long x.toInt64 :: st)) : Go W Q ds k n pc Ls (.int x :: st) := by
  subst hp
  exact go_of K (fun hx hby hown hZ X t h => XT.i2l X.here hx rfl (hb hby hd) rfl h) hr
theorem go_l2i (K : Ok W B y rm mL ret l Z h0) {x : Int64} (hd : decode B pc = .ok (.l2i, 1))  (hp : pc + 1 = pc')
    (hr : Go W Q ds k n pc' Ls (.int x.toInt32 :: st)) : Go W Q ds k n pc Ls (.long x :: st) := by
  subst hp
  exact go_of K (fun hx hby hown hZ X t h => XT.l2i X.here hx rfl (hb hby hd) rfl h) hr
theorem go_i2b (K : Ok W B y rm mL ret l Z h0) {x : Int32} (hd : decode B pc = .ok (.i2b, 1))  (hp : pc + 1 = pc')
    (hr : Go W Q ds k n pc' Ls (.int x.toInt8.toInt32 :: st)) : Go W Q ds k n pc Ls (.int x :: st) := by
  subst hp
  exact go_of K (fun hx hby hown hZ X t h => XT.i2b X.here hx rfl (hb hby hd) rfl h) hr
theorem go_i2c (K : Ok W B y rm mL ret l Z h0) {x : Int32} (hd : decode B pc = .ok (.i2c, 1))  (hp : pc + 1 = pc')
    (hr : Go W Q ds k n pc' Ls (.int x.toUInt32.toUInt16.toUInt32.toInt32 :: st)) : Go W Q ds k n pc Ls (.int x :: st) := by
  subst hp
  exact go_of K (fun hx hby hown hZ X t h => XT.i2c X.here hx rfl (hb hby hd) rfl h) hr
theorem go_lcmp (K : Ok W B y rm mL ret l Z h0) {x z : Int64} (hd : decode B pc = .ok (.lcmp, 1))  (hp : pc + 1 = pc')
    (hr : Go W Q ds k n pc' Ls (.int (XT.cmpL x z) :: st)) : Go W Q ds k n pc Ls (.long z :: .long x :: st) := by
  subst hp
  exact go_of K (fun hx hby hown hZ X t h => XT.lcmp X.here hx rfl (hb hby hd) rfl h) hr
theorem go_pop (K : Ok W B y rm mL ret l Z h0) {x : Value} (hd : decode B pc = .ok (.pop, 1)) (hc : x.category = 1) (hp : pc + 1 = pc')
    (hr : Go W Q ds k n pc' Ls st) : Go W Q ds k n pc Ls (x :: st) := by
  subst hp
  exact go_of K (fun hx hby hown hZ X t h => XT.pop X.here hx rfl (hb hby hd) rfl hc h) hr
theorem go_dup (K : Ok W B y rm mL ret l Z h0) {x : Value} (hd : decode B pc = .ok (.dup, 1)) (hc : x.category = 1) (hp : pc + 1 = pc')
    (hr : Go W Q ds k n pc' Ls (x :: x :: st)) : Go W Q ds k n pc Ls (x :: st) := by
  subst hp
  exact go_of K (fun hx hby hown hZ X t h => XS.dup X.here hx rfl (hb hby hd) rfl hc h) hr
theorem go_dup_x1 (K : Ok W B y rm mL ret l Z h0) {x z : Value} (hd : decode B pc = .ok (.dup_x1, 1)) (hc : x.category = 1) (hc' : z.category = 1) (hp : pc + 1 = pc')
    (hr : Go W Q ds k n pc' Ls (x :: z :: x :: st)) : Go W Q ds k n pc Ls (x :: z :: st) := by
  subst hp
  exact go_of K (fun hx hby hown hZ X t h => XT.dupX1 X.here hx rfl (hb hby hd) rfl hc hc' h) hr
theorem go_dup2 (K : Ok W B y rm mL ret l Z h0) {x z : Value} (hd : decode B pc = .ok (.dup2, 1)) (hc : x.category = 1) (hc' : z.category = 1) (hp : pc + 1 = pc')
    (hr : Go W Q ds k n pc' Ls (x :: z :: x :: z :: st)) : Go W Q ds k n pc Ls (x :: z :: st) := by
  subst hp
  exact go_of K (fun hx hby hown hZ X t h => XT.dup2 X.here hx rfl (hb hby hd) rfl hc hc' h) hr
theorem go_iinc (K : Ok W B y rm mL ret l Z h0) {i : Nat} {cst : Int} {x v : Int32} (hd : decode B pc = .ok (.iinc i cst, 3)) (hv : Int32.ofInt cst = v) (hl : Ls[i]? = some (.val (.int x))) (hl' : storeLocals Ls i (.int (x + v)) = some Ls') (hp : pc + 3 = pc')
    (hr : Go W Q ds k n pc' Ls' st) : Go W Q ds k n pc Ls st := by
  subst hp
  exact go_of K (fun hx hby hown hZ X t h => XT.iincV X.here hx rfl v (hb hby hd) hv hl hl' h) hr
theorem go_ldc (K : Ok W B y rm mL ret l Z h0) {i : Nat} {v : Int32} (hd : decode B pc = .ok (.ldc i, 2)) (w : (Jvm.Cond.constant y.cls i v).before a0 Z = true) (hp : pc + 2 = pc')
    (hr : Go W Q ds k n pc' Ls (.int v :: st)) : Go W Q ds k n pc Ls st := by
  subst hp
  exact go_of K (fun hx hby hown hZ X t h => X.ldcI hx hown (mv hZ w) rfl (hb hby hd) h) hr
theorem go_ldc2 (K : Ok W B y rm mL ret l Z h0) {i : Nat} {v : Int64} (hd : decode B pc = .ok (.ldc2_w i, 3)) (w : (Jvm.Cond.constantLong y.cls i v).before a0 Z = true) (hp : pc + 3 = pc')
    (hr : Go W Q ds k n pc' Ls (.long v :: st)) : Go W Q ds k n pc Ls st := by
  subst hp
  exact go_of K (fun hx hby hown hZ X t h => X.ldc2J hx hown (mv hZ w) rfl (hb hby hd) h) hr
theorem go_goto (K : Ok W B y rm mL ret l Z h0) {o : Int} (hd : decode B pc = .ok (.goto o, 3)) (ho : 0 ≤ (pc : Int) + o) (hp : ((pc : Int) + o).toNat = pc')
    (hr : Go W Q ds k n pc' Ls st) : Go W Q ds k n pc Ls st :=
  go_of K (fun hx hby hown hZ X t h => XS.goto X.here hx rfl rfl (hb hby hd) ho hp h) hr
theorem go_ifY (K : Ok W B y rm mL ret l Z h0) {o : Int} {cd : ClassFile.Cond} {x : Int32} (hd : decode B pc = .ok (.ifCond cd o, 3)) (hc : ifCond.holds cd x = true) (ho : 0 ≤ (pc : Int) + o) (hp : ((pc : Int) + o).toNat = pc')
    (hr : Go W Q ds k n pc' Ls st) : Go W Q ds k n pc Ls (.int x :: st) :=
  go_of K (fun hx hby hown hZ X t h => XS.ifYes X.here hx rfl rfl (hb hby hd) rfl hc ho hp h) hr
theorem go_ifN (K : Ok W B y rm mL ret l Z h0) {o : Int} {cd : ClassFile.Cond} {x : Int32} (hd : decode B pc = .ok (.ifCond cd o, 3)) (hc : ifCond.holds cd x = false) (hp : pc + 3 = pc')
    (hr : Go W Q ds k n pc' Ls st) : Go W Q ds k n pc Ls (.int x :: st) := by
  subst hp
  exact go_of K (fun hx hby hown hZ X t h => XS.ifNo X.here hx rfl (hb hby hd) rfl hc h) hr
theorem go_icY (K : Ok W B y rm mL ret l Z h0) {o : Int} {cd : ClassFile.Cond} {x z : Int32} (hd : decode B pc = .ok (.if_icmp cd o, 3)) (hc : if_icmp.holds cd x z = true) (ho : 0 ≤ (pc : Int) + o) (hp : ((pc : Int) + o).toNat = pc')
    (hr : Go W Q ds k n pc' Ls st) : Go W Q ds k n pc Ls (.int z :: .int x :: st) :=
  go_of K (fun hx hby hown hZ X t h => XS.icmpYes X.here hx rfl rfl (hb hby hd) rfl hc ho hp h) hr
theorem go_icN (K : Ok W B y rm mL ret l Z h0) {o : Int} {cd : ClassFile.Cond} {x z : Int32} (hd : decode B pc = .ok (.if_icmp cd o, 3)) (hc : if_icmp.holds cd x z = false) (hp : pc + 3 = pc')
    (hr : Go W Q ds k n pc' Ls st) : Go W Q ds k n pc Ls (.int z :: .int x :: st) := by
  subst hp
  exact go_of K (fun hx hby hown hZ X t h => XS.icmpNo X.here hx rfl (hb hby hd) rfl hc h) hr

theorem go_if_eq_t (K : Ok W B y rm mL ret l Z h0) {o : Int} {x : Int32} (hd : decode B pc = .ok (.ifCond .eq o, 3)) (hc : x = 0) (ho : 0 ≤ (pc : Int) + o) (hp : ((pc : Int) + o).toNat = pc')
    (hr : Go W Q ds k n pc' Ls st) : Go W Q ds k n pc Ls (.int x :: st) := go_ifY K hd (XT.i0_eq_t hc) ho hp hr
theorem go_if_eq_f (K : Ok W B y rm mL ret l Z h0) {o : Int} {x : Int32} (hd : decode B pc = .ok (.ifCond .eq o, 3)) (hc : x ≠ 0) (hp : pc + 3 = pc')
    (hr : Go W Q ds k n pc' Ls st) : Go W Q ds k n pc Ls (.int x :: st) := go_ifN K hd (XT.i0_eq_f hc) hp hr
theorem go_if_eq (K : Ok W B y rm mL ret l Z h0) {o : Int} {x : Int32} {pt : Nat} (hd : decode B pc = .ok (.ifCond .eq o, 3)) (ho : 0 ≤ (pc : Int) + o) (ht : ((pc : Int) + o).toNat = pt) (hp : pc + 3 = pc')
    (hy : x = 0 → Go W Q ds k n pt Ls st) (hn : x ≠ 0 → Go W Q ds k n pc' Ls st) : Go W Q ds k n pc Ls (.int x :: st) := by
  by_cases hc : x = 0
  · exact go_if_eq_t K hd hc ho ht (hy hc)
  · exact go_if_eq_f K hd (by first | exact hc | exact Int.not_lt.mp hc | exact Int.not_le.mp hc | exact Decidable.not_not.mp hc) hp (hn (by first | exact hc | exact Int.not_lt.mp hc | exact Int.not_le.mp hc | exact Decidable.not_not.mp hc))
theorem go_ic_eq_t (K : Ok W B y rm mL ret l Z h0) {o : Int} {x z : Int32} (hd : decode B pc = .ok (.if_icmp .eq o, 3)) (hc : x = z) (ho : 0 ≤ (pc : Int) + o) (hp : ((pc : Int) + o).toNat = pc')
    (hr : Go W Q ds k n pc' Ls st) : Go W Q ds k n pc Ls (.int z :: .int x :: st) := go_icY K hd (XT.ii_eq_t hc) ho hp hr
theorem go_ic_eq_f (K : Ok W B y rm mL ret l Z h0) {o : Int} {x z : Int32} (hd : decode B pc = .ok (.if_icmp .eq o, 3)) (hc : x ≠ z) (hp : pc + 3 = pc')
    (hr : Go W Q ds k n pc' Ls st) : Go W Q ds k n pc Ls (.int z :: .int x :: st) := go_icN K hd (XT.ii_eq_f hc) hp hr
theorem go_ic_eq (K : Ok W B y rm mL ret l Z h0) {o : Int} {x z : Int32} {pt : Nat} (hd : decode B pc = .ok (.if_icmp .eq o, 3)) (ho : 0 ≤ (pc : Int) + o) (ht : ((pc : Int) + o).toNat = pt) (hp : pc + 3 = pc')
    (hy : x = z → Go W Q ds k n pt Ls st) (hn : x ≠ z → Go W Q ds k n pc' Ls st) : Go W Q ds k n pc Ls (.int z :: .int x :: st) := by
  by_cases hc : x = z
  · exact go_ic_eq_t K hd hc ho ht (hy hc)
  · exact go_ic_eq_f K hd (by first | exact hc | exact Int.not_lt.mp hc | exact Int.not_le.mp hc | exact Decidable.not_not.mp hc) hp (hn (by first | exact hc | exact Int.not_lt.mp hc | exact Int.not_le.mp hc | exact Decidable.not_not.mp hc))
theorem go_if_ne_t (K : Ok W B y rm mL ret l Z h0) {o : Int} {x : Int32} (hd : decode B pc = .ok (.ifCond .ne o, 3)) (hc : x ≠ 0) (ho : 0 ≤ (pc : Int) + o) (hp : ((pc : Int) + o).toNat = pc')
    (hr : Go W Q ds k n pc' Ls st) : Go W Q ds k n pc Ls (.int x :: st) := go_ifY K hd (XT.i0_ne_t hc) ho hp hr
theorem go_if_ne_f (K : Ok W B y rm mL ret l Z h0) {o : Int} {x : Int32} (hd : decode B pc = .ok (.ifCond .ne o, 3)) (hc : x = 0) (hp : pc + 3 = pc')
    (hr : Go W Q ds k n pc' Ls st) : Go W Q ds k n pc Ls (.int x :: st) := go_ifN K hd (XT.i0_ne_f hc) hp hr
theorem go_if_ne (K : Ok W B y rm mL ret l Z h0) {o : Int} {x : Int32} {pt : Nat} (hd : decode B pc = .ok (.ifCond .ne o, 3)) (ho : 0 ≤ (pc : Int) + o) (ht : ((pc : Int) + o).toNat = pt) (hp : pc + 3 = pc')
    (hy : x ≠ 0 → Go W Q ds k n pt Ls st) (hn : x = 0 → Go W Q ds k n pc' Ls st) : Go W Q ds k n pc Ls (.int x :: st) := by
  by_cases hc : x ≠ 0
  · exact go_if_ne_t K hd hc ho ht (hy hc)
  · exact go_if_ne_f K hd (by first | exact hc | exact Int.not_lt.mp hc | exact Int.not_le.mp hc | exact Decidable.not_not.mp hc) hp (hn (by first | exact hc | exact Int.not_lt.mp hc | exact Int.not_le.mp hc | exact Decidable.not_not.mp hc))
theorem go_ic_ne_t (K : Ok W B y rm mL ret l Z h0) {o : Int} {x z : Int32} (hd : decode B pc = .ok (.if_icmp .ne o, 3)) (hc : x ≠ z) (ho : 0 ≤ (pc : Int) + o) (hp : ((pc : Int) + o).toNat = pc')
    (hr : Go W Q ds k n pc' Ls st) : Go W Q ds k n pc Ls (.int z :: .int x :: st) := go_icY K hd (XT.ii_ne_t hc) ho hp hr
theorem go_ic_ne_f (K : Ok W B y rm mL ret l Z h0) {o : Int} {x z : Int32} (hd : decode B pc = .ok (.if_icmp .ne o, 3)) (hc : x = z) (hp : pc + 3 = pc')
    (hr : Go W Q ds k n pc' Ls st) : Go W Q ds k n pc Ls (.int z :: .int x :: st) := go_icN K hd (XT.ii_ne_f hc) hp hr
theorem go_ic_ne (K : Ok W B y rm mL ret l Z h0) {o : Int} {x z : Int32} {pt : Nat} (hd : decode B pc = .ok (.if_icmp .ne o, 3)) (ho : 0 ≤ (pc : Int) + o) (ht : ((pc : Int) + o).toNat = pt) (hp : pc + 3 = pc')
    (hy : x ≠ z → Go W Q ds k n pt Ls st) (hn : x = z → Go W Q ds k n pc' Ls st) : Go W Q ds k n pc Ls (.int z :: .int x :: st) := by
  by_cases hc : x ≠ z
  · exact go_ic_ne_t K hd hc ho ht (hy hc)
  · exact go_ic_ne_f K hd (by first | exact hc | exact Int.not_lt.mp hc | exact Int.not_le.mp hc | exact Decidable.not_not.mp hc) hp (hn (by first | exact hc | exact Int.not_lt.mp hc | exact Int.not_le.mp hc | exact Decidable.not_not.mp hc))
theorem go_if_lt_t (K : Ok W B y rm mL ret l Z h0) {o : Int} {x : Int32} (hd : decode B pc = .ok (.ifCond .lt o, 3)) (hc : x.toInt < 0) (ho : 0 ≤ (pc : Int) + o) (hp : ((pc : Int) + o).toNat = pc')
    (hr : Go W Q ds k n pc' Ls st) : Go W Q ds k n pc Ls (.int x :: st) := go_ifY K hd (XT.i0_lt_t (Int32.lt_iff_toInt_lt.mpr hc)) ho hp hr
theorem go_if_lt_f (K : Ok W B y rm mL ret l Z h0) {o : Int} {x : Int32} (hd : decode B pc = .ok (.ifCond .lt o, 3)) (hc : 0 ≤ x.toInt) (hp : pc + 3 = pc')
    (hr : Go W Q ds k n pc' Ls st) : Go W Q ds k n pc Ls (.int x :: st) := go_ifN K hd (XT.i0_lt_f (fun q => absurd (Int32.lt_iff_toInt_lt.mp q) (Int.not_lt.mpr hc))) hp hr
theorem go_if_lt (K : Ok W B y rm mL ret l Z h0) {o : Int} {x : Int32} {pt : Nat} (hd : decode B pc = .ok (.ifCond .lt o, 3)) (ho : 0 ≤ (pc : Int) + o) (ht : ((pc : Int) + o).toNat = pt) (hp : pc + 3 = pc')
    (hy : x.toInt < 0 → Go W Q ds k n pt Ls st) (hn : 0 ≤ x.toInt → Go W Q ds k n pc' Ls st) : Go W Q ds k n pc Ls (.int x :: st) := by
  by_cases hc : x.toInt < 0
  · exact go_if_lt_t K hd hc ho ht (hy hc)
  · exact go_if_lt_f K hd (by first | exact hc | exact Int.not_lt.mp hc | exact Int.not_le.mp hc | exact Decidable.not_not.mp hc) hp (hn (by first | exact hc | exact Int.not_lt.mp hc | exact Int.not_le.mp hc | exact Decidable.not_not.mp hc))
theorem go_ic_lt_t (K : Ok W B y rm mL ret l Z h0) {o : Int} {x z : Int32} (hd : decode B pc = .ok (.if_icmp .lt o, 3)) (hc : x.toInt < z.toInt) (ho : 0 ≤ (pc : Int) + o) (hp : ((pc : Int) + o).toNat = pc')
    (hr : Go W Q ds k n pc' Ls st) : Go W Q ds k n pc Ls (.int z :: .int x :: st) := go_icY K hd (XT.ii_lt_t (Int32.lt_iff_toInt_lt.mpr hc)) ho hp hr
theorem go_ic_lt_f (K : Ok W B y rm mL ret l Z h0) {o : Int} {x z : Int32} (hd : decode B pc = .ok (.if_icmp .lt o, 3)) (hc : z.toInt ≤ x.toInt) (hp : pc + 3 = pc')
    (hr : Go W Q ds k n pc' Ls st) : Go W Q ds k n pc Ls (.int z :: .int x :: st) := go_icN K hd (XT.ii_lt_f (fun q => absurd (Int32.lt_iff_toInt_lt.mp q) (Int.not_lt.mpr hc))) hp hr
theorem go_ic_lt (K : Ok W B y rm mL ret l Z h0) {o : Int} {x z : Int32} {pt : Nat} (hd : decode B pc = .ok (.if_icmp .lt o, 3)) (ho : 0 ≤ (pc : Int) + o) (ht : ((pc : Int) + o).toNat = pt) (hp : pc + 3 = pc')
    (hy : x.toInt < z.toInt → Go W Q ds k n pt Ls st) (hn : z.toInt ≤ x.toInt → Go W Q ds k n pc' Ls st) : Go W Q ds k n pc Ls (.int z :: .int x :: st) := by
  by_cases hc : x.toInt < z.toInt
  · exact go_ic_lt_t K hd hc ho ht (hy hc)
  · exact go_ic_lt_f K hd (by first | exact hc | exact Int.not_lt.mp hc | exact Int.not_le.mp hc | exact Decidable.not_not.mp hc) hp (hn (by first | exact hc | exact Int.not_lt.mp hc | exact Int.not_le.mp hc | exact Decidable.not_not.mp hc))
theorem go_if_ge_t (K : Ok W B y rm mL ret l Z h0) {o : Int} {x : Int32} (hd : decode B pc = .ok (.ifCond .ge o, 3)) (hc : 0 ≤ x.toInt) (ho : 0 ≤ (pc : Int) + o) (hp : ((pc : Int) + o).toNat = pc')
    (hr : Go W Q ds k n pc' Ls st) : Go W Q ds k n pc Ls (.int x :: st) := go_ifY K hd (XT.i0_ge_t (fun q => absurd (Int32.lt_iff_toInt_lt.mp q) (Int.not_lt.mpr hc))) ho hp hr
theorem go_if_ge_f (K : Ok W B y rm mL ret l Z h0) {o : Int} {x : Int32} (hd : decode B pc = .ok (.ifCond .ge o, 3)) (hc : x.toInt < 0) (hp : pc + 3 = pc')
    (hr : Go W Q ds k n pc' Ls st) : Go W Q ds k n pc Ls (.int x :: st) := go_ifN K hd (XT.i0_ge_f (Int32.lt_iff_toInt_lt.mpr hc)) hp hr
theorem go_if_ge (K : Ok W B y rm mL ret l Z h0) {o : Int} {x : Int32} {pt : Nat} (hd : decode B pc = .ok (.ifCond .ge o, 3)) (ho : 0 ≤ (pc : Int) + o) (ht : ((pc : Int) + o).toNat = pt) (hp : pc + 3 = pc')
    (hy : 0 ≤ x.toInt → Go W Q ds k n pt Ls st) (hn : x.toInt < 0 → Go W Q ds k n pc' Ls st) : Go W Q ds k n pc Ls (.int x :: st) := by
  by_cases hc : 0 ≤ x.toInt
  · exact go_if_ge_t K hd hc ho ht (hy hc)
  · exact go_if_ge_f K hd (by first | exact hc | exact Int.not_lt.mp hc | exact Int.not_le.mp hc | exact Decidable.not_not.mp hc) hp (hn (by first | exact hc | exact Int.not_lt.mp hc | exact Int.not_le.mp hc | exact Decidable.not_not.mp hc))
theorem go_ic_ge_t (K : Ok W B y rm mL ret l Z h0) {o : Int} {x z : Int32} (hd : decode B pc = .ok (.if_icmp .ge o, 3)) (hc : z.toInt ≤ x.toInt) (ho : 0 ≤ (pc : Int) + o) (hp : ((pc : Int) + o).toNat = pc')
    (hr : Go W Q ds k n pc' Ls st) : Go W Q ds k n pc Ls (.int z :: .int x :: st) := go_icY K hd (XT.ii_ge_t (fun q => absurd (Int32.lt_iff_toInt_lt.mp q) (Int.not_lt.mpr hc))) ho hp hr
theorem go_ic_ge_f (K : Ok W B y rm mL ret l Z h0) {o : Int} {x z : Int32} (hd : decode B pc = .ok (.if_icmp .ge o, 3)) (hc : x.toInt < z.toInt) (hp : pc + 3 = pc')
    (hr : Go W Q ds k n pc' Ls st) : Go W Q ds k n pc Ls (.int z :: .int x :: st) := go_icN K hd (XT.ii_ge_f (Int32.lt_iff_toInt_lt.mpr hc)) hp hr
theorem go_ic_ge (K : Ok W B y rm mL ret l Z h0) {o : Int} {x z : Int32} {pt : Nat} (hd : decode B pc = .ok (.if_icmp .ge o, 3)) (ho : 0 ≤ (pc : Int) + o) (ht : ((pc : Int) + o).toNat = pt) (hp : pc + 3 = pc')
    (hy : z.toInt ≤ x.toInt → Go W Q ds k n pt Ls st) (hn : x.toInt < z.toInt → Go W Q ds k n pc' Ls st) : Go W Q ds k n pc Ls (.int z :: .int x :: st) := by
  by_cases hc : z.toInt ≤ x.toInt
  · exact go_ic_ge_t K hd hc ho ht (hy hc)
  · exact go_ic_ge_f K hd (by first | exact hc | exact Int.not_lt.mp hc | exact Int.not_le.mp hc | exact Decidable.not_not.mp hc) hp (hn (by first | exact hc | exact Int.not_lt.mp hc | exact Int.not_le.mp hc | exact Decidable.not_not.mp hc))
theorem go_if_gt_t (K : Ok W B y rm mL ret l Z h0) {o : Int} {x : Int32} (hd : decode B pc = .ok (.ifCond .gt o, 3)) (hc : 0 < x.toInt) (ho : 0 ≤ (pc : Int) + o) (hp : ((pc : Int) + o).toNat = pc')
    (hr : Go W Q ds k n pc' Ls st) : Go W Q ds k n pc Ls (.int x :: st) := go_ifY K hd (XT.i0_gt_t (Int32.lt_iff_toInt_lt.mpr hc)) ho hp hr
theorem go_if_gt_f (K : Ok W B y rm mL ret l Z h0) {o : Int} {x : Int32} (hd : decode B pc = .ok (.ifCond .gt o, 3)) (hc : x.toInt ≤ 0) (hp : pc + 3 = pc')
    (hr : Go W Q ds k n pc' Ls st) : Go W Q ds k n pc Ls (.int x :: st) := go_ifN K hd (XT.i0_gt_f (fun q => absurd (Int32.lt_iff_toInt_lt.mp q) (Int.not_lt.mpr hc))) hp hr
theorem go_if_gt (K : Ok W B y rm mL ret l Z h0) {o : Int} {x : Int32} {pt : Nat} (hd : decode B pc = .ok (.ifCond .gt o, 3)) (ho : 0 ≤ (pc : Int) + o) (ht : ((pc : Int) + o).toNat = pt) (hp : pc + 3 = pc')
    (hy : 0 < x.toInt → Go W Q ds k n pt Ls st) (hn : x.toInt ≤ 0 → Go W Q ds k n pc' Ls st) : Go W Q ds k n pc Ls (.int x :: st) := by
  by_cases hc : 0 < x.toInt
  · exact go_if_gt_t K hd hc ho ht (hy hc)
  · exact go_if_gt_f K hd (by first | exact hc | exact Int.not_lt.mp hc | exact Int.not_le.mp hc | exact Decidable.not_not.mp hc) hp (hn (by first | exact hc | exact Int.not_lt.mp hc | exact Int.not_le.mp hc | exact Decidable.not_not.mp hc))
theorem go_ic_gt_t (K : Ok W B y rm mL ret l Z h0) {o : Int} {x z : Int32} (hd : decode B pc = .ok (.if_icmp .gt o, 3)) (hc : z.toInt < x.toInt) (ho : 0 ≤ (pc : Int) + o) (hp : ((pc : Int) + o).toNat = pc')
    (hr : Go W Q ds k n pc' Ls st) : Go W Q ds k n pc Ls (.int z :: .int x :: st) := go_icY K hd (XT.ii_gt_t (Int32.lt_iff_toInt_lt.mpr hc)) ho hp hr
theorem go_ic_gt_f (K : Ok W B y rm mL ret l Z h0) {o : Int} {x z : Int32} (hd : decode B pc = .ok (.if_icmp .gt o, 3)) (hc : x.toInt ≤ z.toInt) (hp : pc + 3 = pc')
    (hr : Go W Q ds k n pc' Ls st) : Go W Q ds k n pc Ls (.int z :: .int x :: st) := go_icN K hd (XT.ii_gt_f (fun q => absurd (Int32.lt_iff_toInt_lt.mp q) (Int.not_lt.mpr hc))) hp hr
theorem go_ic_gt (K : Ok W B y rm mL ret l Z h0) {o : Int} {x z : Int32} {pt : Nat} (hd : decode B pc = .ok (.if_icmp .gt o, 3)) (ho : 0 ≤ (pc : Int) + o) (ht : ((pc : Int) + o).toNat = pt) (hp : pc + 3 = pc')
    (hy : z.toInt < x.toInt → Go W Q ds k n pt Ls st) (hn : x.toInt ≤ z.toInt → Go W Q ds k n pc' Ls st) : Go W Q ds k n pc Ls (.int z :: .int x :: st) := by
  by_cases hc : z.toInt < x.toInt
  · exact go_ic_gt_t K hd hc ho ht (hy hc)
  · exact go_ic_gt_f K hd (by first | exact hc | exact Int.not_lt.mp hc | exact Int.not_le.mp hc | exact Decidable.not_not.mp hc) hp (hn (by first | exact hc | exact Int.not_lt.mp hc | exact Int.not_le.mp hc | exact Decidable.not_not.mp hc))
theorem go_if_le_t (K : Ok W B y rm mL ret l Z h0) {o : Int} {x : Int32} (hd : decode B pc = .ok (.ifCond .le o, 3)) (hc : x.toInt ≤ 0) (ho : 0 ≤ (pc : Int) + o) (hp : ((pc : Int) + o).toNat = pc')
    (hr : Go W Q ds k n pc' Ls st) : Go W Q ds k n pc Ls (.int x :: st) := go_ifY K hd (XT.i0_le_t (fun q => absurd (Int32.lt_iff_toInt_lt.mp q) (Int.not_lt.mpr hc))) ho hp hr
theorem go_if_le_f (K : Ok W B y rm mL ret l Z h0) {o : Int} {x : Int32} (hd : decode B pc = .ok (.ifCond .le o, 3)) (hc : 0 < x.toInt) (hp : pc + 3 = pc')
    (hr : Go W Q ds k n pc' Ls st) : Go W Q ds k n pc Ls (.int x :: st) := go_ifN K hd (XT.i0_le_f (Int32.lt_iff_toInt_lt.mpr hc)) hp hr
theorem go_if_le (K : Ok W B y rm mL ret l Z h0) {o : Int} {x : Int32} {pt : Nat} (hd : decode B pc = .ok (.ifCond .le o, 3)) (ho : 0 ≤ (pc : Int) + o) (ht : ((pc : Int) + o).toNat = pt) (hp : pc + 3 = pc')
    (hy : x.toInt ≤ 0 → Go W Q ds k n pt Ls st) (hn : 0 < x.toInt → Go W Q ds k n pc' Ls st) : Go W Q ds k n pc Ls (.int x :: st) := by
  by_cases hc : x.toInt ≤ 0
  · exact go_if_le_t K hd hc ho ht (hy hc)
  · exact go_if_le_f K hd (by first | exact hc | exact Int.not_lt.mp hc | exact Int.not_le.mp hc | exact Decidable.not_not.mp hc) hp (hn (by first | exact hc | exact Int.not_lt.mp hc | exact Int.not_le.mp hc | exact Decidable.not_not.mp hc))
theorem go_ic_le_t (K : Ok W B y rm mL ret l Z h0) {o : Int} {x z : Int32} (hd : decode B pc = .ok (.if_icmp .le o, 3)) (hc : x.toInt ≤ z.toInt) (ho : 0 ≤ (pc : Int) + o) (hp : ((pc : Int) + o).toNat = pc')
    (hr : Go W Q ds k n pc' Ls st) : Go W Q ds k n pc Ls (.int z :: .int x :: st) := go_icY K hd (XT.ii_le_t (fun q => absurd (Int32.lt_iff_toInt_lt.mp q) (Int.not_lt.mpr hc))) ho hp hr
theorem go_ic_le_f (K : Ok W B y rm mL ret l Z h0) {o : Int} {x z : Int32} (hd : decode B pc = .ok (.if_icmp .le o, 3)) (hc : z.toInt < x.toInt) (hp : pc + 3 = pc')
    (hr : Go W Q ds k n pc' Ls st) : Go W Q ds k n pc Ls (.int z :: .int x :: st) := go_icN K hd (XT.ii_le_f (Int32.lt_iff_toInt_lt.mpr hc)) hp hr
theorem go_ic_le (K : Ok W B y rm mL ret l Z h0) {o : Int} {x z : Int32} {pt : Nat} (hd : decode B pc = .ok (.if_icmp .le o, 3)) (ho : 0 ≤ (pc : Int) + o) (ht : ((pc : Int) + o).toNat = pt) (hp : pc + 3 = pc')
    (hy : x.toInt ≤ z.toInt → Go W Q ds k n pt Ls st) (hn : z.toInt < x.toInt → Go W Q ds k n pc' Ls st) : Go W Q ds k n pc Ls (.int z :: .int x :: st) := by
  by_cases hc : x.toInt ≤ z.toInt
  · exact go_ic_le_t K hd hc ho ht (hy hc)
  · exact go_ic_le_f K hd (by first | exact hc | exact Int.not_lt.mp hc | exact Int.not_le.mp hc | exact Decidable.not_not.mp hc) hp (hn (by first | exact hc | exact Int.not_lt.mp hc | exact Int.not_le.mp hc | exact Decidable.not_not.mp hc))
theorem go_ll_eq_t (K : Ok W B y rm mL ret l Z h0) {o : Int} {x z : Int64} {pm : Nat} (hd : decode B pc = .ok (.lcmp, 1)) (hm : pc + 1 = pm) (hd' : decode B pm = .ok (.ifCond .eq o, 3)) (hc : x = z) (ho : 0 ≤ (pm : Int) + o) (hp : ((pm : Int) + o).toNat = pc')
    (hr : Go W Q ds k n pc' Ls st) : Go W Q ds k n pc Ls (.long z :: .long x :: st) := go_lcmp K hd hm (go_ifY K hd' (XT.ll_eq_t hc) ho hp hr)
theorem go_ll_eq_f (K : Ok W B y rm mL ret l Z h0) {o : Int} {x z : Int64} {pm : Nat} (hd : decode B pc = .ok (.lcmp, 1)) (hm : pc + 1 = pm) (hd' : decode B pm = .ok (.ifCond .eq o, 3)) (hc : x ≠ z) (hp : pm + 3 = pc')
    (hr : Go W Q ds k n pc' Ls st) : Go W Q ds k n pc Ls (.long z :: .long x :: st) := go_lcmp K hd hm (go_ifN K hd' (XT.ll_eq_f hc) hp hr)
theorem go_ll_eq (K : Ok W B y rm mL ret l Z h0) {o : Int} {x z : Int64} {pm pt : Nat} (hd : decode B pc = .ok (.lcmp, 1)) (hm : pc + 1 = pm) (hd' : decode B pm = .ok (.ifCond .eq o, 3)) (ho : 0 ≤ (pm : Int) + o) (ht : ((pm : Int) + o).toNat = pt) (hp : pm + 3 = pc')
    (hy : x = z → Go W Q ds k n pt Ls st) (hn : x ≠ z → Go W Q ds k n pc' Ls st) : Go W Q ds k n pc Ls (.long z :: .long x :: st) := by
  by_cases hc : x = z
  · exact go_ll_eq_t K hd hm hd' hc ho ht (hy hc)
  · exact go_ll_eq_f K hd hm hd' (by first | exact hc | exact Int.not_lt.mp hc | exact Int.not_le.mp hc | exact Decidable.not_not.mp hc) hp (hn (by first | exact hc | exact Int.not_lt.mp hc | exact Int.not_le.mp hc | exact Decidable.not_not.mp hc))
theorem go_ll_ne_t (K : Ok W B y rm mL ret l Z h0) {o : Int} {x z : Int64} {pm : Nat} (hd : decode B pc = .ok (.lcmp, 1)) (hm : pc + 1 = pm) (hd' : decode B pm = .ok (.ifCond .ne o, 3)) (hc : x ≠ z) (ho : 0 ≤ (pm : Int) + o) (hp : ((pm : Int) + o).toNat = pc')
    (hr : Go W Q ds k n pc' Ls st) : Go W Q ds k n pc Ls (.long z :: .long x :: st) := go_lcmp K hd hm (go_ifY K hd' (XT.ll_ne_t hc) ho hp hr)
theorem go_ll_ne_f (K : Ok W B y rm mL ret l Z h0) {o : Int} {x z : Int64} {pm : Nat} (hd : decode B pc = .ok (.lcmp, 1)) (hm : pc + 1 = pm) (hd' : decode B pm = .ok (.ifCond .ne o, 3)) (hc : x = z) (hp : pm + 3 = pc')
    (hr : Go W Q ds k n pc' Ls st) : Go W Q ds k n pc Ls (.long z :: .long x :: st) := go_lcmp K hd hm (go_ifN K hd' (XT.ll_ne_f hc) hp hr)
theorem go_ll_ne (K : Ok W B y rm mL ret l Z h0) {o : Int} {x z : Int64} {pm pt : Nat} (hd : decode B pc = .ok (.lcmp, 1)) (hm : pc + 1 = pm) (hd' : decode B pm = .ok (.ifCond .ne o, 3)) (ho : 0 ≤ (pm : Int) + o) (ht : ((pm : Int) + o).toNat = pt) (hp : pm + 3 = pc')
    (hy : x ≠ z → Go W Q ds k n pt Ls st) (hn : x = z → Go W Q ds k n pc' Ls st) : Go W Q ds k n pc Ls (.long z :: .long x :: st) := by
  by_cases hc : x ≠ z
  · exact go_ll_ne_t K hd hm hd' hc ho ht (hy hc)
  · exact go_ll_ne_f K hd hm hd' (by first | exact hc | exact Int.not_lt.mp hc | exact Int.not_le.mp hc | exact Decidable.not_not.mp hc) hp (hn (by first | exact hc | exact Int.not_lt.mp hc | exact Int.not_le.mp hc | exact Decidable.not_not.mp hc))
theorem go_ll_lt_t (K : Ok W B y rm mL ret l Z h0) {o : Int} {x z : Int64} {pm : Nat} (hd : decode B pc = .ok (.lcmp, 1)) (hm : pc + 1 = pm) (hd' : decode B pm = .ok (.ifCond .lt o, 3)) (hc : x.toInt < z.toInt) (ho : 0 ≤ (pm : Int) + o) (hp : ((pm : Int) + o).toNat = pc')
    (hr : Go W Q ds k n pc' Ls st) : Go W Q ds k n pc Ls (.long z :: .long x :: st) := go_lcmp K hd hm (go_ifY K hd' (XT.ll_lt_t (Int64.lt_iff_toInt_lt.mpr hc)) ho hp hr)
theorem go_ll_lt_f (K : Ok W B y rm mL ret l Z h0) {o : Int} {x z : Int64} {pm : Nat} (hd : decode B pc = .ok (.lcmp, 1)) (hm : pc + 1 = pm) (hd' : decode B pm = .ok (.ifCond .lt o, 3)) (hc : z.toInt ≤ x.toInt) (hp : pm + 3 = pc')
    (hr : Go W Q ds k n pc' Ls st) : Go W Q ds k n pc Ls (.long z :: .long x :: st) := go_lcmp K hd hm (go_ifN K hd' (XT.ll_lt_f (fun q => absurd (Int64.lt_iff_toInt_lt.mp q) (Int.not_lt.mpr hc))) hp hr)
theorem go_ll_lt (K : Ok W B y rm mL ret l Z h0) {o : Int} {x z : Int64} {pm pt : Nat} (hd : decode B pc = .ok (.lcmp, 1)) (hm : pc + 1 = pm) (hd' : decode B pm = .ok (.ifCond .lt o, 3)) (ho : 0 ≤ (pm : Int) + o) (ht : ((pm : Int) + o).toNat = pt) (hp : pm + 3 = pc')
    (hy : x.toInt < z.toInt → Go W Q ds k n pt Ls st) (hn : z.toInt ≤ x.toInt → Go W Q ds k n pc' Ls st) : Go W Q ds k n pc Ls (.long z :: .long x :: st) := by
  by_cases hc : x.toInt < z.toInt
  · exact go_ll_lt_t K hd hm hd' hc ho ht (hy hc)
  · exact go_ll_lt_f K hd hm hd' (by first | exact hc | exact Int.not_lt.mp hc | exact Int.not_le.mp hc | exact Decidable.not_not.mp hc) hp (hn (by first | exact hc | exact Int.not_lt.mp hc | exact Int.not_le.mp hc | exact Decidable.not_not.mp hc))
theorem go_ll_ge_t (K : Ok W B y rm mL ret l Z h0) {o : Int} {x z : Int64} {pm : Nat} (hd : decode B pc = .ok (.lcmp, 1)) (hm : pc + 1 = pm) (hd' : decode B pm = .ok (.ifCond .ge o, 3)) (hc : z.toInt ≤ x.toInt) (ho : 0 ≤ (pm : Int) + o) (hp : ((pm : Int) + o).toNat = pc')
    (hr : Go W Q ds k n pc' Ls st) : Go W Q ds k n pc Ls (.long z :: .long x :: st) := go_lcmp K hd hm (go_ifY K hd' (XT.ll_ge_t (fun q => absurd (Int64.lt_iff_toInt_lt.mp q) (Int.not_lt.mpr hc))) ho hp hr)
theorem go_ll_ge_f (K : Ok W B y rm mL ret l Z h0) {o : Int} {x z : Int64} {pm : Nat} (hd : decode B pc = .ok (.lcmp, 1)) (hm : pc + 1 = pm) (hd' : decode B pm = .ok (.ifCond .ge o, 3)) (hc : x.toInt < z.toInt) (hp : pm + 3 = pc')
    (hr : Go W Q ds k n pc' Ls st) : Go W Q ds k n pc Ls (.long z :: .long x :: st) := go_lcmp K hd hm (go_ifN K hd' (XT.ll_ge_f (Int64.lt_iff_toInt_lt.mpr hc)) hp hr)
theorem go_ll_ge (K : Ok W B y rm mL ret l Z h0) {o : Int} {x z : Int64} {pm pt : Nat} (hd : decode B pc = .ok (.lcmp, 1)) (hm : pc + 1 = pm) (hd' : decode B pm = .ok (.ifCond .ge o, 3)) (ho : 0 ≤ (pm : Int) + o) (ht : ((pm : Int) + o).toNat = pt) (hp : pm + 3 = pc')
    (hy : z.toInt ≤ x.toInt → Go W Q ds k n pt Ls st) (hn : x.toInt < z.toInt → Go W Q ds k n pc' Ls st) : Go W Q ds k n pc Ls (.long z :: .long x :: st) := by
  by_cases hc : z.toInt ≤ x.toInt
  · exact go_ll_ge_t K hd hm hd' hc ho ht (hy hc)
  · exact go_ll_ge_f K hd hm hd' (by first | exact hc | exact Int.not_lt.mp hc | exact Int.not_le.mp hc | exact Decidable.not_not.mp hc) hp (hn (by first | exact hc | exact Int.not_lt.mp hc | exact Int.not_le.mp hc | exact Decidable.not_not.mp hc))
theorem go_ll_gt_t (K : Ok W B y rm mL ret l Z h0) {o : Int} {x z : Int64} {pm : Nat} (hd : decode B pc = .ok (.lcmp, 1)) (hm : pc + 1 = pm) (hd' : decode B pm = .ok (.ifCond .gt o, 3)) (hc : z.toInt < x.toInt) (ho : 0 ≤ (pm : Int) + o) (hp : ((pm : Int) + o).toNat = pc')
    (hr : Go W Q ds k n pc' Ls st) : Go W Q ds k n pc Ls (.long z :: .long x :: st) := go_lcmp K hd hm (go_ifY K hd' (XT.ll_gt_t (Int64.lt_iff_toInt_lt.mpr hc)) ho hp hr)
theorem go_ll_gt_f (K : Ok W B y rm mL ret l Z h0) {o : Int} {x z : Int64} {pm : Nat} (hd : decode B pc = .ok (.lcmp, 1)) (hm : pc + 1 = pm) (hd' : decode B pm = .ok (.ifCond .gt o, 3)) (hc : x.toInt ≤ z.toInt) (hp : pm + 3 = pc')
    (hr : Go W Q ds k n pc' Ls st) : Go W Q ds k n pc Ls (.long z :: .long x :: st) := go_lcmp K hd hm (go_ifN K hd' (XT.ll_gt_f (fun q => absurd (Int64.lt_iff_toInt_lt.mp q) (Int.not_lt.mpr hc))) hp hr)
theorem go_ll_gt (K : Ok W B y rm mL ret l Z h0) {o : Int} {x z : Int64} {pm pt : Nat} (hd : decode B pc = .ok (.lcmp, 1)) (hm : pc + 1 = pm) (hd' : decode B pm = .ok (.ifCond .gt o, 3)) (ho : 0 ≤ (pm : Int) + o) (ht : ((pm : Int) + o).toNat = pt) (hp : pm + 3 = pc')
    (hy : z.toInt < x.toInt → Go W Q ds k n pt Ls st) (hn : x.toInt ≤ z.toInt → Go W Q ds k n pc' Ls st) : Go W Q ds k n pc Ls (.long z :: .long x :: st) := by
  by_cases hc : z.toInt < x.toInt
  · exact go_ll_gt_t K hd hm hd' hc ho ht (hy hc)
  · exact go_ll_gt_f K hd hm hd' (by first | exact hc | exact Int.not_lt.mp hc | exact Int.not_le.mp hc | exact Decidable.not_not.mp hc) hp (hn (by first | exact hc | exact Int.not_lt.mp hc | exact Int.not_le.mp hc | exact Decidable.not_not.mp hc))
theorem go_ll_le_t (K : Ok W B y rm mL ret l Z h0) {o : Int} {x z : Int64} {pm : Nat} (hd : decode B pc = .ok (.lcmp, 1)) (hm : pc + 1 = pm) (hd' : decode B pm = .ok (.ifCond .le o, 3)) (hc : x.toInt ≤ z.toInt) (ho : 0 ≤ (pm : Int) + o) (hp : ((pm : Int) + o).toNat = pc')
    (hr : Go W Q ds k n pc' Ls st) : Go W Q ds k n pc Ls (.long z :: .long x :: st) := go_lcmp K hd hm (go_ifY K hd' (XT.ll_le_t (fun q => absurd (Int64.lt_iff_toInt_lt.mp q) (Int.not_lt.mpr hc))) ho hp hr)
theorem go_ll_le_f (K : Ok W B y rm mL ret l Z h0) {o : Int} {x z : Int64} {pm : Nat} (hd : decode B pc = .ok (.lcmp, 1)) (hm : pc + 1 = pm) (hd' : decode B pm = .ok (.ifCond .le o, 3)) (hc : z.toInt < x.toInt) (hp : pm + 3 = pc')
    (hr : Go W Q ds k n pc' Ls st) : Go W Q ds k n pc Ls (.long z :: .long x :: st) := go_lcmp K hd hm (go_ifN K hd' (XT.ll_le_f (Int64.lt_iff_toInt_lt.mpr hc)) hp hr)
theorem go_ll_le (K : Ok W B y rm mL ret l Z h0) {o : Int} {x z : Int64} {pm pt : Nat} (hd : decode B pc = .ok (.lcmp, 1)) (hm : pc + 1 = pm) (hd' : decode B pm = .ok (.ifCond .le o, 3)) (ho : 0 ≤ (pm : Int) + o) (ht : ((pm : Int) + o).toNat = pt) (hp : pm + 3 = pc')
    (hy : x.toInt ≤ z.toInt → Go W Q ds k n pt Ls st) (hn : z.toInt < x.toInt → Go W Q ds k n pc' Ls st) : Go W Q ds k n pc Ls (.long z :: .long x :: st) := by
  by_cases hc : x.toInt ≤ z.toInt
  · exact go_ll_le_t K hd hm hd' hc ho ht (hy hc)
  · exact go_ll_le_f K hd hm hd' (by first | exact hc | exact Int.not_lt.mp hc | exact Int.not_le.mp hc | exact Decidable.not_not.mp hc) hp (hn (by first | exact hc | exact Int.not_lt.mp hc | exact Int.not_le.mp hc | exact Decidable.not_not.mp hc))

/-! null tests, references compared -/
theorem go_ifnull_r (K : Ok W B y rm mL ret l Z h0) {o : Int} {a : Nat} (hd : decode B pc = .ok (.ifnull o, 3)) (hp : pc + 3 = pc') (hr : Go W Q ds k n pc' Ls st) : Go W Q ds k n pc Ls (.ref a :: st) := by
  subst hp
  exact go_of K (fun hx hby hown hZ X t h => XS.ifnullNo X.here hx rfl (hb hby hd) rfl h) hr
theorem go_ifnonnull_r (K : Ok W B y rm mL ret l Z h0) {o : Int} {a : Nat} (hd : decode B pc = .ok (.ifnonnull o, 3)) (ho : 0 ≤ (pc : Int) + o) (hp : ((pc : Int) + o).toNat = pc') (hr : Go W Q ds k n pc' Ls st) : Go W Q ds k n pc Ls (.ref a :: st) :=
  go_of K (fun hx hby hown hZ X t h => XT.ifnonnullYes X.here hx rfl rfl (hb hby hd) rfl ho hp h) hr
theorem go_acY (K : Ok W B y rm mL ret l Z h0) {o : Int} {cd : ClassFile.ACond} {a b : Value} (hd : decode B pc = .ok (.if_acmp cd o, 3)) (h1 : a.isRef = true) (h2 : b.isRef = true) (hc : XT.acmp cd a b = true) (ho : 0 ≤ (pc : Int) + o) (hp : ((pc : Int) + o).toNat = pc')
    (hr : Go W Q ds k n pc' Ls st) : Go W Q ds k n pc Ls (b :: a :: st) :=
  go_of K (fun hx hby hown hZ X t h => XT.acmpYes X.here hx rfl rfl (hb hby hd) rfl h1 h2 hc ho hp h) hr
theorem go_acN (K : Ok W B y rm mL ret l Z h0) {o : Int} {cd : ClassFile.ACond} {a b : Value} (hd : decode B pc = .ok (.if_acmp cd o, 3)) (h1 : a.isRef = true) (h2 : b.isRef = true) (hc : XT.acmp cd a b = false) (hp : pc + 3 = pc')
    (hr : Go W Q ds k n pc' Ls st) : Go W Q ds k n pc Ls (b :: a :: st) := by
  subst hp
  exact go_of K (fun hx hby hown hZ X t h => XT.acmpNo X.here hx rfl (hb hby hd) rfl h1 h2 hc h) hr
/-! returns -/
theorem go_done (K : Ok W B y rm mL ret l Z h0) {v : Option Value} (hv : ret = none → v = none) (hk : k ≤ rm.cells) (hn : n ≤ rm.slots)
    (f : ∀ {p : Program} {l : Launch} {e : Env} {R : Room} {s : State} {m : MethodId} {args : Array Value} {below : List Frame} {meth : Method} {c : Code} {T : State} {L : List Loc} {fs : List Frame}, p.tables.exec = Jvm.exec → c.code = B → meth.sig.returnType = ret →
      Stand p l e R s m args below meth c T L k n → (∀ (f : JFrame) (acts : List Action), f.method = m → f.locked = none → f.entered = [] → (doReturn e (T.setTop f) acts v).1 = T.setFrames fs) → Steps p.tables e below (T.setTop (mkF m pc Ls st)) (T.setFrames fs))
    (hq : Q v ds) : Go W Q ds k n pc Ls st := by
  obtain ⟨p, l, e, R, s, m, args, below, meth, c, Z, h0⟩ := W
  obtain ⟨k1, k2, k3, k4, k5, k6, k7, k8, rfl, rfl, rfl, rfl⟩ := K
  intro T L N X H
  obtain ⟨fs, hr, hrun, hended, hW, hsame⟩ := X.leave (v := v) (fun h => hv (k6.symm.trans h)) k7
  exact ⟨_, v, f k1 k3 k6 X hr, hrun, hended, L, ds, N, H, hq, ⟨_, rfl⟩, hW, hsame.mono hk hn⟩
theorem go_ret (K : Ok W B y rm mL none l Z h0) (hd : decode B pc = .ok (.return_, 1)) (hk : k ≤ rm.cells) (hn : n ≤ rm.slots) (hq : Q none ds) : Go W Q ds k n pc Ls [] :=
  go_done K (v := none) (fun _ => rfl) hk hn (fun hx hby hret X hr => X.returnOut hx hret (hb hby hd) hr) hq
theorem go_iret (K : Ok W B y rm mL (some .int) l Z h0) {z : Int32} (hd : decode B pc = .ok (.ireturn, 1)) (hk : k ≤ rm.cells) (hn : n ≤ rm.slots) (hq : Q (some (.int z)) ds) : Go W Q ds k n pc Ls (.int z :: st) :=
  go_done K (v := some (.int z)) (fun h => by cases h) hk hn (fun hx hby hret X hr => retOut X hx hret rfl (Or.inl ⟨rfl, Or.inl rfl, _, rfl⟩) (hb hby hd) hr) hq
theorem go_zret (K : Ok W B y rm mL (some .boolean) l Z h0) {z : Int32} (hd : decode B pc = .ok (.ireturn, 1)) (hk : k ≤ rm.cells) (hn : n ≤ rm.slots) (hz : z = 0 ∨ z = 1) (hq : Q (some (.int z)) ds) : Go W Q ds k n pc Ls (.int z :: st) :=
  go_done K (v := some (.int z)) (fun h => by cases h) hk hn (fun hx hby hret X hr => retOut X hx hret (by rcases hz with rfl | rfl <;> rfl) (Or.inl ⟨rfl, Or.inr (Or.inl rfl), _, rfl⟩) (hb hby hd) hr) hq
theorem go_lret (K : Ok W B y rm mL (some .long) l Z h0) {z : Int64} (hd : decode B pc = .ok (.lreturn, 1)) (hk : k ≤ rm.cells) (hn : n ≤ rm.slots) (hq : Q (some (.long z)) ds) : Go W Q ds k n pc Ls (.long z :: st) :=
  go_done K (v := some (.long z)) (fun h => by cases h) hk hn (fun hx hby hret X hr => retOut X hx hret rfl (Or.inr (Or.inl ⟨rfl, rfl, _, rfl⟩)) (hb hby hd) hr) hq
theorem go_aret {t : FieldType} (K : Ok W B y rm mL (some t) l Z h0) {a : Nat} (ht : t.isReference = true) (hd : decode B pc = .ok (.areturn, 1)) (hk : k ≤ rm.cells) (hn : n ≤ rm.slots) (hq : Q (some (.ref a)) ds) : Go W Q ds k n pc Ls (.ref a :: st) :=
  go_done K (v := some (.ref a)) (fun h => by cases h) hk hn (fun hx hby hret X hr => retOut X hx hret (by cases t <;> first | rfl | cases ht) (Or.inr (Or.inr (Or.inr (Or.inr ⟨rfl, ht, rfl⟩)))) (hb hby hd) hr) hq
/-! arrays -/
theorem inb {vs : List Value} {c : Cell} {j : Int32} {m : Nat} (S : c.slots = vs.toArray) (hj : j.toInt = (m : Int)) (hm : m < vs.length) : ¬ (j < 0 ∨ c.slots.size ≤ j.toNatClampNeg) := by
  have e : j.toNatClampNeg = m := by simp [Int32.toNatClampNeg, hj]
  rw [e, S, List.size_toArray, Int32.lt_iff_toInt_lt, hj]
  have z : (0 : Int32).toInt = 0 := rfl
  rw [z]; omega
theorem go_alen (K : Ok W B y rm mL ret l Z h0) {i a : Nat} {ty : FieldType} {vs : List Value} {z : Int32} (ha : ds[i]? = some (a, .inl (ty, vs))) (hd : decode B pc = .ok (.arraylength, 1)) (hz : vs.length.toInt32 = z) (hp : pc + 1 = pc')
    (hr : Go W Q ds k n pc' Ls (.int z :: st)) : Go W Q ds k n pc Ls (.ref a :: st) := by
  obtain ⟨p, l, e, R, s, m, args, below, meth, c, Z, h0⟩ := W
  obtain ⟨k1, k2, k3, k4, k5, k6, k7, k8, rfl, rfl, rfl, rfl⟩ := K
  intro T L N X H
  obtain ⟨s₂, v, h1, rest⟩ := hr T L N X H
  obtain ⟨-, cl, A, S, -⟩ := H.2.1 _ _ ha
  subst hp hz
  refine ⟨s₂, v, X.arraylength k1 A.1 (State.isArrayOf_alike k2.alike A.2.1) (g := mkF m pc Ls (.ref a :: st)) rfl rfl (hb k3 hd) _ ?_, rest⟩
  have q : cl.slots.size = vs.length := by rw [S, List.size_toArray]
  rw [q]; exact h1

theorem go_iaload (K : Ok W B y rm mL ret l Z h0) {i a m : Nat} {xs : List Int32} {j : Int32} {x : Int32} (ha : ds[i]? = some (a, ia xs)) (hd : decode B pc = .ok (.iaload, 1)) (hj : j.toInt = (m : Int)) (hx : xs[m]? = some x) (hp : pc + 1 = pc')
    (hr : Go W Q ds k n pc' Ls (.int x :: st)) : Go W Q ds k n pc Ls (.int j :: .ref a :: st) := by
  obtain ⟨p, l, e, R, s, mm, args, below, meth, c, Z, h0⟩ := W
  obtain ⟨k1, k2, k3, k4, k5, k6, k7, k8, rfl, rfl, rfl, rfl⟩ := K
  intro T L N X H
  obtain ⟨s₂, v, h1, rest⟩ := hr T L N X H
  obtain ⟨-, cl, A, S, -⟩ := H.2.1 _ _ ha
  subst hp
  have hm : m < xs.length := (List.getElem?_eq_some_iff.mp hx).1
  have e1 : j.toNatClampNeg = m := by simp [Int32.toNatClampNeg, hj]
  refine ⟨s₂, v, X.iaload k1 A.1 (State.isArrayOf_alike k2.alike A.2.1) A.2.2 (inb S hj (by simpa using hm)) (v := .int x) ?_ (g := mkF mm pc Ls (.int j :: .ref a :: st)) rfl rfl (hb k3 hd) _ h1, rest⟩
  rw [e1, S]; simp [hx]
theorem go_laload (K : Ok W B y rm mL ret l Z h0) {i a m : Nat} {xs : List Int64} {j : Int32} {x : Int64} (ha : ds[i]? = some (a, la xs)) (hd : decode B pc = .ok (.laload, 1)) (hj : j.toInt = (m : Int)) (hx : xs[m]? = some x) (hp : pc + 1 = pc')
    (hr : Go W Q ds k n pc' Ls (.long x :: st)) : Go W Q ds k n pc Ls (.int j :: .ref a :: st) := by
  obtain ⟨p, l, e, R, s, mm, args, below, meth, c, Z, h0⟩ := W
  obtain ⟨k1, k2, k3, k4, k5, k6, k7, k8, rfl, rfl, rfl, rfl⟩ := K
  intro T L N X H
  obtain ⟨s₂, v, h1, rest⟩ := hr T L N X H
  obtain ⟨-, cl, A, S, -⟩ := H.2.1 _ _ ha
  subst hp
  have hm : m < xs.length := (List.getElem?_eq_some_iff.mp hx).1
  have e1 : j.toNatClampNeg = m := by simp [Int32.toNatClampNeg, hj]
  refine ⟨s₂, v, X.laload k1 A.1 (State.isArrayOf_alike k2.alike A.2.1) A.2.2 (inb S hj (by simpa using hm)) (v := .long x) ?_ (g := mkF mm pc Ls (.int j :: .ref a :: st)) rfl rfl (hb k3 hd) _ h1, rest⟩
  rw [e1, S]; simp [hx]
theorem go_baload (K : Ok W B y rm mL ret l Z h0) {i a m : Nat} {xs : List Int32} {j : Int32} {x : Int32} (ha : ds[i]? = some (a, ba xs)) (hd : decode B pc = .ok (.baload, 1)) (hj : j.toInt = (m : Int)) (hx : xs[m]? = some x) (hp : pc + 1 = pc')
    (hr : Go W Q ds k n pc' Ls (.int x :: st)) : Go W Q ds k n pc Ls (.int j :: .ref a :: st) := by
  obtain ⟨p, l, e, R, s, mm, args, below, meth, c, Z, h0⟩ := W
  obtain ⟨k1, k2, k3, k4, k5, k6, k7, k8, rfl, rfl, rfl, rfl⟩ := K
  intro T L N X H
  obtain ⟨s₂, v, h1, rest⟩ := hr T L N X H
  obtain ⟨-, cl, A, S, -⟩ := H.2.1 _ _ ha
  subst hp
  have hm : m < xs.length := (List.getElem?_eq_some_iff.mp hx).1
  have e1 : j.toNatClampNeg = m := by simp [Int32.toNatClampNeg, hj]
  refine ⟨s₂, v, X.baloadBytes k1 A.1 (State.isArrayOf_alike k2.alike A.2.1) A.2.2 (inb S hj (by simpa using hm)) (v := .int x) ?_ (g := mkF mm pc Ls (.int j :: .ref a :: st)) rfl rfl (hb k3 hd) _ h1, rest⟩
  rw [e1, S]; simp [hx]
theorem go_iastore (K : Ok W B y rm mL ret l Z h0) {i a m : Nat} {xs : List Int32} {j : Int32} {x : Int32} {ds' : Hp} (ha : ds[i]? = some (a, ia xs)) (hd : decode B pc = .ok (.iastore, 1)) (hj : j.toInt = (m : Int)) (hm : m < xs.length) (hp : pc + 1 = pc') (hs : ds.set i (a, ia (xs.set m x)) = ds')
    (hr : Go W Q ds' k n pc' Ls st) : Go W Q ds k n pc Ls (.int x :: .int j :: .ref a :: st) := by
  subst hs hp
  obtain ⟨p, l, e, R, s, mm, args, below, meth, c, Z, h0⟩ := W
  obtain ⟨k1, k2, k3, k4, k5, k6, k7, k8, rfl, rfl, rfl, rfl⟩ := K
  intro T L N X H
  obtain ⟨hge, cl, A, S, EX⟩ := H.2.1 _ _ ha
  have e1 : j.toNatClampNeg = m := by simp [Int32.toNatClampNeg, hj]
  obtain ⟨T', h', X', eT, Wr1, stp⟩ := stI X k1 k2 rfl A (inb S hj (by simpa using hm)) (g := mkF mm pc Ls (.int x :: .int j :: .ref a :: st)) rfl rfl (hb k3 hd)
  rw [e1] at Wr1 X'
  obtain ⟨s₂, v, h1, rest⟩ := hr T' _ (N.snoc X' hge) X' (by
    rw [eT]
    refine H.set ha Wr1 ⟨_, A.same Wr1, ?_, EX.wr Wr1⟩
    simp [Cell.setSlot, S, List.map_set])
  exact ⟨s₂, v, stp _ h1, rest⟩
theorem go_lastore (K : Ok W B y rm mL ret l Z h0) {i a m : Nat} {xs : List Int64} {j : Int32} {x : Int64} {ds' : Hp} (ha : ds[i]? = some (a, la xs)) (hd : decode B pc = .ok (.lastore, 1)) (hj : j.toInt = (m : Int)) (hm : m < xs.length) (hp : pc + 1 = pc') (hs : ds.set i (a, la (xs.set m x)) = ds')
    (hr : Go W Q ds' k n pc' Ls st) : Go W Q ds k n pc Ls (.long x :: .int j :: .ref a :: st) := by
  subst hs hp
  obtain ⟨p, l, e, R, s, mm, args, below, meth, c, Z, h0⟩ := W
  obtain ⟨k1, k2, k3, k4, k5, k6, k7, k8, rfl, rfl, rfl, rfl⟩ := K
  intro T L N X H
  obtain ⟨hge, cl, A, S, EX⟩ := H.2.1 _ _ ha
  have e1 : j.toNatClampNeg = m := by simp [Int32.toNatClampNeg, hj]
  obtain ⟨T', h', X', eT, Wr1, stp⟩ := stJ X k1 k2 rfl A (inb S hj (by simpa using hm)) (g := mkF mm pc Ls (.long x :: .int j :: .ref a :: st)) rfl rfl (hb k3 hd)
  rw [e1] at Wr1 X'
  obtain ⟨s₂, v, h1, rest⟩ := hr T' _ (N.snoc X' hge) X' (by
    rw [eT]
    refine H.set ha Wr1 ⟨_, A.same Wr1, ?_, EX.wr Wr1⟩
    simp [Cell.setSlot, S, List.map_set])
  exact ⟨s₂, v, stp _ h1, rest⟩
theorem go_bastore (K : Ok W B y rm mL ret l Z h0) {i a m : Nat} {xs : List Int32} {j : Int32} {x : Int32} {ds' : Hp} (ha : ds[i]? = some (a, ba xs)) (hd : decode B pc = .ok (.bastore, 1)) (hj : j.toInt = (m : Int)) (hm : m < xs.length) (hp : pc + 1 = pc') (hs : ds.set i (a, ba (xs.set m (nar .byte x))) = ds')
    (hr : Go W Q ds' k n pc' Ls st) : Go W Q ds k n pc Ls (.int x :: .int j :: .ref a :: st) := by
  subst hs hp
  obtain ⟨p, l, e, R, s, mm, args, below, meth, c, Z, h0⟩ := W
  obtain ⟨k1, k2, k3, k4, k5, k6, k7, k8, rfl, rfl, rfl, rfl⟩ := K
  intro T L N X H
  obtain ⟨hge, cl, A, S, EX⟩ := H.2.1 _ _ ha
  have e1 : j.toNatClampNeg = m := by simp [Int32.toNatClampNeg, hj]
  obtain ⟨T', h', X', eT, Wr1, stp⟩ := stB X k1 k2 rfl A (inb S hj (by simpa using hm)) (g := mkF mm pc Ls (.int x :: .int j :: .ref a :: st)) rfl rfl (hb k3 hd)
  rw [e1] at Wr1 X'
  obtain ⟨s₂, v, h1, rest⟩ := hr T' _ (N.snoc X' hge) X' (by
    rw [eT]
    refine H.set ha Wr1 ⟨_, A.same Wr1, ?_, EX.wr Wr1⟩
    simp [Cell.setSlot, S, List.map_set])
  exact ⟨s₂, v, stp _ h1, rest⟩
theorem go_newI (K : Ok W B y rm mL ret l Z h0) {m cap : Nat} {z : Int32} (w : (Jvm.Cond.arrayClass .int).before a0 Z = true) (hd : decode B pc = .ok (.newarray .int, 2)) (hz : z.toInt = (m : Int)) (hcap : m ≤ cap) (hb8 : cap * 8 ≤ 536870912) (hk : k + 1 ≤ rm.cells) (hn : n + cap ≤ rm.slots) (hp : pc + 2 = pc')
    (hr : ∀ a, h0.size ≤ a → (∀ q ∈ ds, q.1 < a) → Go W Q (ds ++ [(a, ia (List.replicate m 0))]) (k + 1) (n + cap) pc' Ls (.ref a :: st)) : Go W Q ds k n pc Ls (.int z :: st) := by
  subst hp
  obtain ⟨p, l, e, R, s, mm, args, below, meth, c, Z, h0⟩ := W
  obtain ⟨k1, k2, k3, k4, k5, k6, k7, k8, rfl, rfl, rfl, rfl⟩ := K
  intro T L N X H
  have e1 : z.toNatClampNeg = m := by simp [Int32.toNatClampNeg, hz]
  obtain ⟨T', h', cA, X', eT, E, A, EX, stp⟩ := newPE X k1 k2 (aty := .int) w rfl (g := mkF mm pc Ls (.int z :: st)) rfl (hb k3 hd) rfl (by rw [Int32.lt_iff_toInt_lt, hz]; exact Int.not_lt.mpr (Int.natCast_nonneg m)) (cap := cap) (by rw [e1]; exact hcap) hb8 hk hn rfl
  obtain ⟨s₂, v, h1, rest⟩ := hr T.heap.size H.1.1 H.lts T' _ N X' (by
    rw [eT]
    refine H.new E ⟨_, A, ?_, EX⟩
    simp only [newA, e1, List.map_replicate]
    first | rfl | simp [defaultValue, newarray.typeOf])
  exact ⟨s₂, v, stp _ h1, rest⟩
theorem go_newJ (K : Ok W B y rm mL ret l Z h0) {m cap : Nat} {z : Int32} (w : (Jvm.Cond.arrayClass .long).before a0 Z = true) (hd : decode B pc = .ok (.newarray .long, 2)) (hz : z.toInt = (m : Int)) (hcap : m ≤ cap) (hb8 : cap * 8 ≤ 536870912) (hk : k + 1 ≤ rm.cells) (hn : n + cap ≤ rm.slots) (hp : pc + 2 = pc')
    (hr : ∀ a, h0.size ≤ a → (∀ q ∈ ds, q.1 < a) → Go W Q (ds ++ [(a, la (List.replicate m 0))]) (k + 1) (n + cap) pc' Ls (.ref a :: st)) : Go W Q ds k n pc Ls (.int z :: st) := by
  subst hp
  obtain ⟨p, l, e, R, s, mm, args, below, meth, c, Z, h0⟩ := W
  obtain ⟨k1, k2, k3, k4, k5, k6, k7, k8, rfl, rfl, rfl, rfl⟩ := K
  intro T L N X H
  have e1 : z.toNatClampNeg = m := by simp [Int32.toNatClampNeg, hz]
  obtain ⟨T', h', cA, X', eT, E, A, EX, stp⟩ := newPE X k1 k2 (aty := .long) w rfl (g := mkF mm pc Ls (.int z :: st)) rfl (hb k3 hd) rfl (by rw [Int32.lt_iff_toInt_lt, hz]; exact Int.not_lt.mpr (Int.natCast_nonneg m)) (cap := cap) (by rw [e1]; exact hcap) hb8 hk hn rfl
  obtain ⟨s₂, v, h1, rest⟩ := hr T.heap.size H.1.1 H.lts T' _ N X' (by
    rw [eT]
    refine H.new E ⟨_, A, ?_, EX⟩
    simp only [newA, e1, List.map_replicate]
    first | rfl | simp [defaultValue, newarray.typeOf])
  exact ⟨s₂, v, stp _ h1, rest⟩
theorem go_newB (K : Ok W B y rm mL ret l Z h0) {m cap : Nat} {z : Int32} (w : (Jvm.Cond.arrayClass .byte).before a0 Z = true) (hd : decode B pc = .ok (.newarray .byte, 2)) (hz : z.toInt = (m : Int)) (hcap : m ≤ cap) (hb8 : cap * 8 ≤ 536870912) (hk : k + 1 ≤ rm.cells) (hn : n + cap ≤ rm.slots) (hp : pc + 2 = pc')
    (hr : ∀ a, h0.size ≤ a → (∀ q ∈ ds, q.1 < a) → Go W Q (ds ++ [(a, ba (List.replicate m 0))]) (k + 1) (n + cap) pc' Ls (.ref a :: st)) : Go W Q ds k n pc Ls (.int z :: st) := by
  subst hp
  obtain ⟨p, l, e, R, s, mm, args, below, meth, c, Z, h0⟩ := W
  obtain ⟨k1, k2, k3, k4, k5, k6, k7, k8, rfl, rfl, rfl, rfl⟩ := K
  intro T L N X H
  have e1 : z.toNatClampNeg = m := by simp [Int32.toNatClampNeg, hz]
  obtain ⟨T', h', cA, X', eT, E, A, EX, stp⟩ := newPE X k1 k2 (aty := .byte) w rfl (g := mkF mm pc Ls (.int z :: st)) rfl (hb k3 hd) rfl (by rw [Int32.lt_iff_toInt_lt, hz]; exact Int.not_lt.mpr (Int.natCast_nonneg m)) (cap := cap) (by rw [e1]; exact hcap) hb8 hk hn rfl
  obtain ⟨s₂, v, h1, rest⟩ := hr T.heap.size H.1.1 H.lts T' _ N X' (by
    rw [eT]
    refine H.new E ⟨_, A, ?_, EX⟩
    simp only [newA, e1, List.map_replicate]
    first | rfl | simp [defaultValue, newarray.typeOf])
  exact ⟨s₂, v, stp _ h1, rest⟩

/-! calls -/
theorem go_static (K : Ok W B y rm mL ret l Z h0) {y' : MethodName} {B' : ByteArray} {mL' idx Wd : Nat} {ret' : Option FieldType} {rm' : Room} {Q' : Option Value → Hp → Prop} {argsL rest : List Value}
    (w1 : (Jvm.Cond.methodLink y.cls idx y').before a0 Z = true) (w2 : (Jvm.Cond.static y').before a0 Z = true) (w3 : (Jvm.Cond.initialized y'.cls).before a0 Z = true) (w4 : (Jvm.Cond.code y' B' mL' ret').before a0 Z = true)
    (hd : decode B pc = .ok (.invokestatic idx, 3)) (hct : Ct l Z h0 y' B' mL' ret' [] rm' argsL.toArray ds Q') (hlen : ∀ sig, parseMethodDescriptor y'.desc = some sig → argsL.length = sig.parameters.length) (hsz : Ls.size = mL) (hst : st = argsL.reverse ++ rest)
    (hy : y'.cls ≠ "java/lang/invoke/MethodHandle" ∧ y'.cls ≠ "java/lang/invoke/VarHandle") (hW : (rest.map fun v => v.category).sum = Wd) (hf : rm'.frames + 1 ≤ rm.frames) (hl : Wd + (mL' + 11) + rm'.locals ≤ rm.locals) (hk : k + rm'.cells ≤ rm.cells) (hn : n + rm'.slots ≤ rm.slots) (hp : pc + 3 = pc')
    (hr : ∀ v ds', Q' v ds' → Go W Q ds' (k + rm'.cells) (n + rm'.slots) pc' Ls (v.toList ++ rest)) : Go W Q ds k n pc Ls st := by
  subst hp hst
  obtain ⟨p, l, e, R, s, m, args, below, meth, c, Z, h0⟩ := W
  obtain ⟨k1, k2, k3, k4, k5, k6, k7, k8, rfl, rfl, rfl, rfl⟩ := K
  intro T L N X H
  obtain ⟨v, vm₁, ⟨T', L', kk, nn⟩, -, X', ⟨Lc, hQ, l1, y1, z1⟩, stp⟩ := Jvm.LawKit.callS X k1 (y := y') k5 (mvT k2 w1) (mvT k2 w2) (mvT k2 w3) (mvT k2 w4) hy
    (backOf (W := Wd) (Q := fun v h L => Fr h0.size L ∧ ∃ ds', HL Z h0 ds' h ∧ Q' v ds') (hct _ H) k2 w4 w3 hf hl) (g := mkF m pc Ls (argsL.reverse ++ rest)) rfl (hsz.trans k4.symm) (argsL := argsL) (rest := rest) hlen rfl (by show 2 * 0 + _ ≤ _; omega) (hb k3 hd) (fun _ _ => ⟨rfl, rfl, hk, hn⟩)
  dsimp only [Pt.U, Pt.locs, Pt.cells, Pt.slots] at X' l1 y1 z1 stp hQ
  subst l1 y1 z1
  obtain ⟨N', ds', H', hq⟩ := hQ
  obtain ⟨s₂, v₂, h1, rest'⟩ := hr v ds' hq T' _ (N.app N') X' H'
  exact ⟨s₂, v₂, stp _ h1, rest'⟩
theorem go_virtual (K : Ok W B y rm mL ret l Z h0) {y' : MethodName} {B' : ByteArray} {mL' idx Wd i b : Nat} {ret' : Option FieldType} {rm' : Room} {Q' : Option Value → Hp → Prop} {argsL rest : List Value} {C : String} {fs : List ((String × String × String) × Value)}
    (w1 : (Jvm.Cond.methodLink y.cls idx y').before a0 Z = true) (w2 : (Jvm.Cond.declares y').before a0 Z = true) (w3 : (Jvm.Cond.selects C y' y').before a0 Z = true) (w4 : (Jvm.Cond.instanceMethod y').before a0 Z = true) (w5 : (Jvm.Cond.initialized y'.cls).before a0 Z = true) (w6 : (Jvm.Cond.code y' B' mL' ret').before a0 Z = true)
    (ha : ds[i]? = some (b, .inr (C, fs))) (hd : decode B pc = .ok (.invokevirtual idx, 3)) (hct : Ct l Z h0 y' B' mL' ret' [] rm' (.ref b :: argsL).toArray ds Q') (hlen : ∀ sig, parseMethodDescriptor y'.desc = some sig → argsL.length = sig.parameters.length) (hsz : Ls.size = mL) (hst : st = argsL.reverse ++ .ref b :: rest)
    (hy : y'.cls ≠ "java/lang/invoke/MethodHandle" ∧ y'.cls ≠ "java/lang/invoke/VarHandle") (hW : (rest.map fun v => v.category).sum = Wd) (hf : rm'.frames + 1 ≤ rm.frames) (hl : Wd + (mL' + 11) + rm'.locals ≤ rm.locals) (hk : k + rm'.cells ≤ rm.cells) (hn : n + rm'.slots ≤ rm.slots) (hp : pc + 3 = pc')
    (hr : ∀ v ds', Q' v ds' → Go W Q ds' (k + rm'.cells) (n + rm'.slots) pc' Ls (v.toList ++ rest)) : Go W Q ds k n pc Ls st := by
  subst hp hst
  obtain ⟨p, l, e, R, s, m, args, below, meth, c, Z, h0⟩ := W
  obtain ⟨k1, k2, k3, k4, k5, k6, k7, k8, rfl, rfl, rfl, rfl⟩ := K
  intro T L N X H
  obtain ⟨-, E, -⟩ := H.2.1 _ _ ha
  obtain ⟨cB, kB, q1, -, q3⟩ := isOf (T := T) k2 rfl E
  obtain ⟨v, vm₁, ⟨T', L', kk, nn⟩, -, X', ⟨Lc, hQ, l1, y1, z1⟩, stp⟩ := X.virtualBack k1 (y := y') (z := y') k5 (mvT k2 w1) (mvT k2 w2) (notFace_of_selects (args := #[]) (mvT k2 w3)) (mvT k2 w3) (mvT k2 w4) hy
    (backOf (W := Wd) (Q := fun v h L => Fr h0.size L ∧ ∃ ds', HL Z h0 ds' h ∧ Q' v ds') (hct _ H) k2 w6 w5 hf hl) q1 q3 (g := mkF m pc Ls (argsL.reverse ++ .ref b :: rest)) rfl (hsz.trans k4.symm) (Steps.refl _) (argsL := argsL) (rest := rest) hlen rfl (by show 2 * 0 + _ ≤ _; omega) (hb k3 hd) (fun _ _ => ⟨rfl, rfl, hk, hn⟩)
  dsimp only [Pt.U, Pt.locs, Pt.cells, Pt.slots] at X' l1 y1 z1 stp hQ
  subst l1 y1 z1
  obtain ⟨N', ds', H', hq⟩ := hQ
  obtain ⟨s₂, v₂, h1, rest'⟩ := hr v ds' hq T' _ (N.app N') X' H'
  exact ⟨s₂, v₂, stp.trans h1, rest'⟩
theorem go_special (K : Ok W B y rm mL ret l Z h0) {y' : MethodName} {B' : ByteArray} {mL' idx Wd b : Nat} {rm' : Room} {Q' : Option Value → Hp → Prop} {argsL rest : List Value} (hin : y'.name = "<init>")
    (w1 : (Jvm.Cond.methodLink y.cls idx y').before a0 Z = true) (w2 : (Jvm.Cond.instanceMethod y').before a0 Z = true) (w3 : (Jvm.Cond.initialized y'.cls).before a0 Z = true) (w4 : (Jvm.Cond.code y' B' mL' none).before a0 Z = true)
    (hd : decode B pc = .ok (.invokespecial idx, 3)) (hct : Ct l Z h0 y' B' mL' none [] rm' (.ref b :: argsL).toArray ds Q') (hlen : ∀ sig, parseMethodDescriptor y'.desc = some sig → argsL.length = sig.parameters.length) (hsz : Ls.size = mL) (hst : st = argsL.reverse ++ .ref b :: rest)
    (hy : y'.cls ≠ "java/lang/invoke/MethodHandle" ∧ y'.cls ≠ "java/lang/invoke/VarHandle") (hW : (rest.map fun v => v.category).sum = Wd) (hf : rm'.frames + 1 ≤ rm.frames) (hl : Wd + (mL' + 11) + rm'.locals ≤ rm.locals) (hk : k + rm'.cells ≤ rm.cells) (hn : n + rm'.slots ≤ rm.slots) (hp : pc + 3 = pc')
    (hr : ∀ v ds', Q' v ds' → Go W Q ds' (k + rm'.cells) (n + rm'.slots) pc' Ls (v.toList ++ rest)) : Go W Q ds k n pc Ls st := by
  subst hp hst
  obtain ⟨p, l, e, R, s, m, args, below, meth, c, Z, h0⟩ := W
  obtain ⟨k1, k2, k3, k4, k5, k6, k7, k8, rfl, rfl, rfl, rfl⟩ := K
  intro T L N X H
  obtain ⟨v, vm₁, ⟨T', L', kk, nn⟩, -, X', ⟨Lc, hQ, l1, y1, z1⟩, stp⟩ := X.specialBack k1 (y := y') hin k5 (mvT k2 w1) (mvT k2 w2) (mvT k2 w4) hy
    (backOf (W := Wd) (Q := fun v h L => Fr h0.size L ∧ ∃ ds', HL Z h0 ds' h ∧ Q' v ds') (hct _ H) k2 w4 w3 hf hl) (g := mkF m pc Ls (argsL.reverse ++ .ref b :: rest)) rfl (hsz.trans k4.symm) (Steps.refl _) (a := b) (argsL := argsL) (rest := rest) hlen rfl (by show 2 * 0 + _ ≤ _; omega) (hb k3 hd) (fun _ _ => ⟨rfl, rfl, hk, hn⟩)
  dsimp only [Pt.U, Pt.locs, Pt.cells, Pt.slots] at X' l1 y1 z1 stp hQ
  subst l1 y1 z1
  obtain ⟨N', ds', H', hq⟩ := hQ
  obtain ⟨s₂, v₂, h1, rest'⟩ := hr v ds' hq T' _ (N.app N') X' H'
  exact ⟨s₂, v₂, stp.trans h1, rest'⟩
/-! objects -/
theorem go_objinit (K : Ok W B y rm mL ret l Z h0) {idx Wd b : Nat} (w1 : (Jvm.Cond.methodLink y.cls idx Lib.objectInit).before a0 Z = true) (w2 : (Jvm.Cond.instanceMethod Lib.objectInit).before a0 Z = true) (w3 : (Jvm.Cond.code Lib.objectInit ⟨#[0xb1]⟩ 1 none).before a0 Z = true)
    (hd : decode B pc = .ok (.invokespecial idx, 3)) (hsz : Ls.size = mL) (hW : (st.map fun v => v.category).sum = Wd) (hf : 1 ≤ rm.frames) (hl : Wd + 12 ≤ rm.locals) (hp : pc + 3 = pc') (hr : Go W Q ds k n pc' Ls st) : Go W Q ds k n pc Ls (.ref b :: st) := by
  subst hp
  obtain ⟨p, l, e, R, s, m, args, below, meth, c, Z, h0⟩ := W
  obtain ⟨k1, k2, k3, k4, k5, k6, k7, k8, rfl, rfl, rfl, rfl⟩ := K
  intro T L N X H
  obtain ⟨T', X', eT, stp⟩ := initO X k1 k2 k5 w1 w2 w3 rfl (g := mkF m pc Ls (.ref b :: st)) rfl (hsz.trans k4.symm) rfl (hb k3 hd) hf (W := Wd) (by show 2 * 0 + _ ≤ _; omega) hl
  obtain ⟨s₂, v₂, h1, rest'⟩ := hr T' L N X' (by rw [eT]; exact H)
  exact ⟨s₂, v₂, stp _ h1, rest'⟩
theorem go_getfield (K : Ok W B y rm mL ret l Z h0) {idx i j a : Nat} {C O nm d : String} {fs : List ((String × String × String) × Value)} {x : Value} (w : (Jvm.Cond.fieldLink y.cls idx O nm d).before a0 Z = true)
    (ha : ds[i]? = some (a, .inr (C, fs))) (hf : fs[j]? = some ((O, nm, d), x)) (hd : decode B pc = .ok (.getfield idx, 3)) (hp : pc + 3 = pc') (hr : Go W Q ds k n pc' Ls (x :: st)) : Go W Q ds k n pc Ls (.ref a :: st) := by
  subst hp
  obtain ⟨p, l, e, R, s, m, args, below, meth, c, Z, h0⟩ := W
  obtain ⟨k1, k2, k3, k4, k5, k6, k7, k8, rfl, rfl, rfl, rfl⟩ := K
  intro T L N X H
  obtain ⟨-, E, F⟩ := H.2.1 _ _ ha
  obtain ⟨T', X', eT, stp⟩ := getF X k1 k2 k5 (host := "") (Or.inl w) Via.refl rfl (F j _ hf) (g := mkF m pc Ls (.ref a :: st)) rfl rfl (hb k3 hd)
  obtain ⟨s₂, v₂, h1, rest'⟩ := hr T' L N X' (by rw [eT]; exact H)
  exact ⟨s₂, v₂, stp _ h1, rest'⟩
theorem go_putfield (K : Ok W B y rm mL ret l Z h0) {idx i j a kk : Nat} {C O nm d : String} {fs : List ((String × String × String) × Value)} {KS : List (String × String × String)} {x old : Value} {ty : FieldType} {ds' : Hp} (w : (Jvm.Cond.fieldLink y.cls idx O nm d).before a0 Z = true)
    (wl : (Jvm.Cond.lays C O nm d).before a0 Z = true ∨ ((Jvm.Cond.laysFinal C O nm d).before a0 Z = true ∧ y.cls = O ∧ y.name = "<init>")) (wi : (Jvm.Cond.instantiable C kk).before a0 Z = true)
    (ha : ds[i]? = some (a, .inr (C, fs))) (hf : fs[j]? = some ((O, nm, d), old)) (hks : fs.map Prod.fst = KS) (al : ∀ f ∈ KS, Laid Z a0 C f.1 f.2.1 f.2.2 ∧ ∃ t, parseFieldDescriptor f.2.2 = some t) (nd : (KS.map fun f => f.2.1).Nodup)
    (hty : parseFieldDescriptor d = some ty) (hn : narrow ty x = x) (hfi : fits ty x = true) (hd : decode B pc = .ok (.putfield idx, 3)) (hp : pc + 3 = pc') (hs : ds.set i (a, .inr (C, fs.set j ((O, nm, d), x))) = ds')
    (hr : Go W Q ds' k n pc' Ls st) : Go W Q ds k n pc Ls (x :: .ref a :: st) := by
  subst hp hs hks
  have hkey : ∀ j' (f : (String × String × String) × Value), fs[j']? = some f → (fs.map Prod.fst)[j']? = some f.1 := fun j' f h => by rw [List.getElem?_map, h]; rfl
  have hne : ∀ (j' : Nat) (f : (String × String × String) × Value), fs[j']? = some f → j' ≠ j → Jvm.RoadKit.slotOf Z f.1.1 f.1.2.1 f.1.2.2 ≠ Jvm.RoadKit.slotOf Z O nm d := fun j' f hf' hj => by
    obtain ⟨L1, t1, p1⟩ := al f.1 (List.mem_of_getElem? (hkey j' f hf'))
    obtain ⟨L2, t2, p2⟩ := al (O, nm, d) (List.mem_of_getElem? (hkey j _ hf))
    refine slot_ne L1 L2 (fun e => hj ?_) p1 p2
    have q1 : ((fs.map Prod.fst).map fun f => f.2.1)[j']? = some f.1.2.1 := by rw [List.getElem?_map, hkey j' f hf']; rfl
    have q2 : ((fs.map Prod.fst).map fun f => f.2.1)[j]? = some nm := by rw [List.getElem?_map, hkey j _ hf]; rfl
    have lt : j' < ((fs.map Prod.fst).map fun f => f.2.1).length := (List.getElem?_eq_some_iff.mp q1).1
    exact (List.getElem?_inj lt nd).mp (by rw [q1, q2, e])
  obtain ⟨p, l, e, R, s, m, args, below, meth, c, Z, h0⟩ := W
  obtain ⟨k1, k2, k3, k4, k5, k6, k7, k8, rfl, rfl, rfl, rfl⟩ := K
  intro T L N X H
  obtain ⟨hge, E, F⟩ := H.2.1 _ _ ha
  obtain ⟨T', h', X', eT, W1, stp⟩ := putF X k1 k2 k5 (host := "") (Or.inl w) Via.refl rfl (F j _ hf) E (wl.imp id fun q => ⟨q.1, q.2.1, k8.trans q.2.2⟩) wi hty hn hfi (g := mkF m pc Ls (x :: .ref a :: st)) rfl rfl (hb k3 hd)
  obtain ⟨s₂, v₂, h1, rest'⟩ := hr T' _ (N.snoc X' hge) X' (by
    rw [eT]
    refine H.set ha W1 ⟨E.wr W1, fun j' f hf' => ?_⟩
    rw [List.getElem?_set] at hf'
    by_cases e : j = j'
    · subst e
      rw [if_pos rfl, if_pos (List.getElem?_eq_some_iff.mp hf).1] at hf'
      cases hf'
      exact (F j _ hf).same W1
    · rw [if_neg e] at hf'
      exact (F j' f hf').other W1 (Or.inr (hne j' f hf' fun q => e q.symm)))
  exact ⟨s₂, v₂, stp _ h1, rest'⟩
theorem go_getstatic (K : Ok W B y rm mL ret l Z h0) {idx : Nat} {O nm d : String} {x : Value} (w : (Jvm.Cond.fieldLink y.cls idx O nm d).before a0 Z = true) (S : Sta Z h0 O nm d x) (hd : decode B pc = .ok (.getstatic idx, 3)) (hp : pc + 3 = pc')
    (hr : Go W Q ds k n pc' Ls (x :: st)) : Go W Q ds k n pc Ls st := by
  subst hp
  obtain ⟨p, l, e, R, s, m, args, below, meth, c, Z, h0⟩ := W
  obtain ⟨k1, k2, k3, k4, k5, k6, k7, k8, rfl, rfl, rfl, rfl⟩ := K
  intro T L N X H
  obtain ⟨T', X', eT, stp⟩ := getS (host := "") X k1 k2 k5 w Via.refl rfl (S.ext H.1) (g := mkF m pc Ls st) rfl (hb k3 hd)
  obtain ⟨s₂, v₂, h1, rest'⟩ := hr T' L N X' (by rw [eT]; exact H)
  exact ⟨s₂, v₂, stp _ h1, rest'⟩
theorem go_new (K : Ok W B y rm mL ret l Z h0) {idx m : Nat} {C : String} {fs : List ((String × String × String) × Value)} {KS : List (String × String × String)} (w1 : (Jvm.Cond.classLink y.cls idx C).before a0 Z = true) (w2 : (Jvm.Cond.instantiable C m).before a0 Z = true) (w3 : (Jvm.Cond.initialized C).before a0 Z = true)
    (hks : fs.map Prod.fst = KS) (al : ∀ f ∈ KS, Laid Z a0 C f.1 f.2.1 f.2.2 ∧ ∃ t, parseFieldDescriptor f.2.2 = some t) (hdef : fs.map (fun f => (parseFieldDescriptor f.1.2.2).map defaultValue) = fs.map fun f => some f.2) (hd : decode B pc = .ok (.new idx, 3)) (hk : k + 1 ≤ rm.cells) (hn : n + m ≤ rm.slots) (hp : pc + 3 = pc')
    (hr : ∀ a, h0.size ≤ a → (∀ q ∈ ds, q.1 < a) → Go W Q (ds ++ [(a, .inr (C, fs))]) (k + 1) (n + m) pc' Ls (.ref a :: st)) : Go W Q ds k n pc Ls st := by
  subst hp hks
  have hfs : ∀ (j : Nat) (f : (String × String × String) × Value), fs[j]? = some f → Laid Z a0 C f.1.1 f.1.2.1 f.1.2.2 ∧ ∃ ty, parseFieldDescriptor f.1.2.2 = some ty ∧ defaultValue ty = f.2 := fun j f hf => by
    obtain ⟨L1, t1, p1⟩ := al f.1 (List.mem_map_of_mem (List.mem_of_getElem? hf))
    refine ⟨L1, t1, p1, ?_⟩
    have q : (fs.map (fun f => (parseFieldDescriptor f.1.2.2).map defaultValue))[j]? = (fs.map fun f => some f.2)[j]? := by rw [hdef]
    rw [List.getElem?_map, List.getElem?_map, hf] at q
    have q' : (parseFieldDescriptor f.1.2.2).map defaultValue = some f.2 := Option.some.inj q
    rw [p1] at q'
    exact Option.some.inj q'
  obtain ⟨p, l, e, R, s, mm, args, below, meth, c, Z, h0⟩ := W
  obtain ⟨k1, k2, k3, k4, k5, k6, k7, k8, rfl, rfl, rfl, rfl⟩ := K
  intro T L N X H
  obtain ⟨T', h', X', eT, E, A, D, -, stp⟩ := newO X k1 k2 k5 w1 w2 w3 rfl (g := mkF mm pc Ls st) rfl (hb k3 hd) hk hn
  obtain ⟨s₂, v, h1, rest⟩ := hr T.heap.size H.1.1 H.lts T' _ N X' (by
    rw [eT]
    refine H.new E ⟨A, fun j f hf => ?_⟩
    obtain ⟨hL, ty, h1, h2⟩ := hfs j f hf
    rw [← h2]
    exact D hL h1)
  exact ⟨s₂, v, stp _ h1, rest⟩
/-! clone, checkcast, arraycopy -/
theorem OkD.keep {Z : State} {h h' : Heap} {b : Nat} {d : D} {ws : List Addr} (K : Jvm.RoadKit.Keep h h' ws) (O : OkD Z h b d) (hne : b ∉ ws) : OkD Z h' b d := by
  cases d with
  | inl q => obtain ⟨c, A, S, X⟩ := O; exact ⟨c, ⟨K.2.1 b c A.1 hne, A.2⟩, S, X.keep K⟩
  | inr q => exact ⟨O.1.keep K, fun j f hf => (O.2 j f hf).keep K hne⟩
theorem HL.keep {Z : State} {h0 h h' : Heap} {ds : Hp} {i a : Nat} {d d' : D} (H : HL Z h0 ds h) (ha : ds[i]? = some (a, d)) (K : Jvm.RoadKit.Keep h h' [a]) (O : OkD Z h' a d') : HL Z h0 (ds.set i (a, d')) h' := by
  have hge := (H.2.1 i _ ha).1
  have hi : i < ds.length := (List.getElem?_eq_some_iff.mp ha).1
  have key : ∀ j (q : Nat × D), (ds.set i (a, d'))[j]? = some q → (j = i ∧ q = (a, d')) ∨ (j ≠ i ∧ ds[j]? = some q) := fun j q hq => by
    rw [List.getElem?_set] at hq
    by_cases e : i = j
    · subst e; rw [if_pos rfl, if_pos hi] at hq; exact Or.inl ⟨rfl, (Option.some.inj hq).symm⟩
    · rw [if_neg e] at hq; exact Or.inr ⟨fun x => e x.symm, hq⟩
  refine ⟨⟨Nat.le_trans H.1.1 K.1, fun b c q => ?_⟩, fun j q hq => ?_, fun j k q r hq hr he => ?_⟩
  · have hlt : b < h0.size := (Array.getElem?_eq_some_iff.mp q).1
    exact K.2.1 b c (H.1.2 b c q) fun z => by cases List.mem_singleton.mp z; exact absurd hlt (Nat.not_lt.mpr hge)
  · rcases key j q hq with ⟨-, rfl⟩ | ⟨hne, hq'⟩
    · exact ⟨hge, O⟩
    · exact ⟨(H.2.1 j q hq').1, (H.2.1 j q hq').2.keep K fun z => hne (H.2.2 j i q _ hq' ha (List.mem_singleton.mp z))⟩
  · have ad : ∀ j (q : Nat × D), (ds.set i (a, d'))[j]? = some q → ∃ q' : Nat × D, ds[j]? = some q' ∧ q'.1 = q.1 := fun j q hq => by
      rcases key j q hq with ⟨rfl, rfl⟩ | ⟨-, hq'⟩
      · exact ⟨_, ha, rfl⟩
      · exact ⟨q, hq', rfl⟩
    obtain ⟨q', a1, a2⟩ := ad j q hq
    obtain ⟨r', b1, b2⟩ := ad k r hr
    exact H.2.2 j k q' r' a1 b1 (by rw [a2, b2]; exact he)
theorem go_clone (K : Ok W B y rm mL ret l Z h0) {idx i a cap Wd : Nat} {ty : FieldType} {vs : List Value} {ad : String}
    (w1 : (Jvm.Cond.methodLink y.cls idx ⟨ad, "clone", "()Ljava/lang/Object;"⟩).before a0 Z = true) (w2 : (Jvm.Cond.sameMethod ad "java/lang/Object" "clone" "()Ljava/lang/Object;").before a0 Z = true) (w3 : (Jvm.Cond.native ⟨"java/lang/Object", "clone", "()Ljava/lang/Object;"⟩).before a0 Z = true)
    (w4 : (Jvm.Cond.instanceMethod ⟨"java/lang/Object", "clone", "()Ljava/lang/Object;"⟩).before a0 Z = true) (w5 : (Jvm.Cond.selects ad ⟨ad, "clone", "()Ljava/lang/Object;"⟩ ⟨"java/lang/Object", "clone", "()Ljava/lang/Object;"⟩).before a0 Z = true) (w6 : (Jvm.Cond.castable ad "java/lang/Cloneable").before a0 Z = true)
    (had : "[" ++ ty.toString = ad) (ha : ds[i]? = some (a, .inl (ty, vs))) (hfit : ∀ v ∈ vs, fits ty v = true) (hd : decode B pc = .ok (.invokevirtual idx, 3)) (hsz : Ls.size = mL) (hW : (st.map fun v => v.category).sum = Wd) (hf : 1 ≤ rm.frames) (hl : Wd + 14 ≤ rm.locals) (hcap : vs.length ≤ cap) (hk : k + 1 ≤ rm.cells) (hn : n + cap ≤ rm.slots) (hp : pc + 3 = pc')
    (hr : ∀ a', h0.size ≤ a' → (∀ q ∈ ds, q.1 < a') → Go W Q (ds ++ [(a', .inl (ty, vs))]) (k + 1) (n + cap) pc' Ls (.ref a' :: st)) : Go W Q ds k n pc Ls (.ref a :: st) := by
  subst hp
  obtain ⟨p, l, e, R, s, mm, args, below, meth, c, Z, h0⟩ := W
  obtain ⟨k1, k2, k3, k4, k5, k6, k7, k8, rfl, rfl, rfl, rfl⟩ := K
  intro T L N X H
  obtain ⟨hge, cl, A, S, EX⟩ := H.2.1 _ _ ha
  have FC : FitC Z cl := fitC_of A fun i hi v hv => hfit v (by
    rw [S, List.getElem?_toArray] at hv
    exact List.mem_of_getElem? hv)
  obtain ⟨T', h', X', eT, E, A', EX', stp⟩ := cloneA X k1 k2 k5 w1 w2 w3 w4 w5 w6 rfl A (had ▸ EX) FC (g := mkF mm pc Ls (.ref a :: st)) rfl (hsz.trans k4.symm) rfl (hb k3 hd) hf (W := Wd) (cap := cap) (by show 2 * 0 + _ ≤ _; omega) hl (by rw [S, List.size_toArray]; exact hcap) hk hn
  obtain ⟨s₂, v, h1, rest⟩ := hr T.heap.size H.1.1 H.lts T' _ N X' (by
    rw [eT]
    exact H.new E ⟨_, A', S, had ▸ EX'⟩)
  exact ⟨s₂, v, stp _ h1, rest⟩
theorem go_castA (K : Ok W B y rm mL ret l Z h0) {idx i a : Nat} {ty : FieldType} {vs : List Value} {Kc ad : String} (w : (Jvm.Cond.classLink y.cls idx Kc).before a0 Z = true) (wc : (Jvm.Cond.castable ad Kc).before a0 Z = true)
    (had : "[" ++ ty.toString = ad) (ha : ds[i]? = some (a, .inl (ty, vs))) (hd : decode B pc = .ok (.checkcast idx, 3)) (hp : pc + 3 = pc') (hr : Go W Q ds k n pc' Ls (.ref a :: st)) : Go W Q ds k n pc Ls (.ref a :: st) := by
  subst hp
  obtain ⟨p, l, e, R, s, mm, args, below, meth, c, Z, h0⟩ := W
  obtain ⟨k1, k2, k3, k4, k5, k6, k7, k8, rfl, rfl, rfl, rfl⟩ := K
  intro T L N X H
  obtain ⟨hge, cl, A, S, EX⟩ := H.2.1 _ _ ha
  obtain ⟨T', X', eT, stp⟩ := castY X k1 k2 k5 w rfl (Ins.of_exa (had ▸ EX) wc) (g := mkF mm pc Ls (.ref a :: st)) rfl rfl (hb k3 hd)
  obtain ⟨s₂, v, h1, rest⟩ := hr T' L N X' (by rw [eT]; exact H)
  exact ⟨s₂, v, stp _ h1, rest⟩
theorem arv_of {Z : State} {h : Heap} {a : Nat} {xs : List Int32} (O : OkD Z h a (ba xs)) (hl : xs.length < 2147483648) (hfit : ∀ x ∈ xs, fits .byte (.int x) = true) : ∃ kk, Arv Z h a kk .byte xs.length.toInt32 (xs.map Value.int) (.int 0) := by
  obtain ⟨c, A, S, -⟩ := O
  have e1 : xs.length.toInt32.toInt = (xs.length : Int) := len_toInt hl
  have e2 : xs.length.toInt32.toNatClampNeg = xs.length := by simp [Int32.toNatClampNeg, e1]
  have sz : c.slots.size = xs.length := by rw [S]; simp
  refine ⟨c.cls, c, A, rfl, by rw [e2, sz], by rw [Int32.lt_iff_toInt_lt, e1]; exact Int.not_lt.mpr (Int.natCast_nonneg _), fun i hi => ?_, fun i hi => ?_⟩
  · have hi' : i < xs.length := by omega
    rw [S]; simp [List.getD_eq_getElem?_getD, hi']
  · have hi' : i < xs.length := by omega
    have : (xs.map Value.int).getD i (.int 0) = .int xs[i] := by simp [List.getD_eq_getElem?_getD, hi']
    rw [this]; exact hfit _ (List.getElem_mem _)
theorem go_acopy (K : Ok W B y rm mL ret l Z h0) {idx i j a b sp dp m Wd : Nat} {xs ys : List Int32} {js jd jn : Int32} {ds' : Hp}
    (w1 : (Jvm.Cond.methodLink y.cls idx Jvm.Stand.acN).before a0 Z = true) (w2 : (Jvm.Cond.native Jvm.Stand.acN).before a0 Z = true) (w3 : (Jvm.Cond.static Jvm.Stand.acN).before a0 Z = true) (w4 : (Jvm.Cond.initialized "java/lang/System").before a0 Z = true)
    (ha : ds[i]? = some (a, ba xs)) (hb' : ds[j]? = some (b, ba ys)) (hxl : xs.length < 2147483648) (hyl : ys.length < 2147483648) (hxf : ∀ x ∈ xs, fits .byte (.int x) = true) (hyf : ∀ x ∈ ys, fits .byte (.int x) = true)
    (h1 : js.toInt = (sp : Int)) (h2 : jd.toInt = (dp : Int)) (h3 : jn.toInt = (m : Int)) (h4 : sp + m ≤ xs.length) (h5 : dp + m ≤ ys.length) (hd : decode B pc = .ok (.invokestatic idx, 3)) (hsz : Ls.size = mL) (hW : (st.map fun v => v.category).sum = Wd) (hf : 1 ≤ rm.frames) (hl : Wd + (nativeFrameWords "java/lang/System" "arraycopy" 5 + 11) ≤ rm.locals) (hp : pc + 3 = pc')
    (hs : ds.set j (b, ba (ys.take dp ++ (xs.drop sp).take m ++ ys.drop (dp + m))) = ds') (hr : Go W Q ds' k n pc' Ls st) : Go W Q ds k n pc Ls (.int jn :: .int jd :: .ref b :: .int js :: .ref a :: st) := by
  subst hp hs
  obtain ⟨p, l, e, R, s, mm, args, below, meth, c, Z, h0⟩ := W
  obtain ⟨k1, k2, k3, k4, k5, k6, k7, k8, rfl, rfl, rfl, rfl⟩ := K
  intro T L N X H
  obtain ⟨-, Oa⟩ := H.2.1 _ _ ha
  obtain ⟨hge, Ob⟩ := H.2.1 _ _ hb'
  obtain ⟨ka, Aa⟩ := arv_of Oa hxl hxf
  obtain ⟨kb, Ab⟩ := arv_of Ob hyl hyf
  have cl : ∀ {x : Int32} {q : Nat}, x.toInt = (q : Int) → x.toNatClampNeg = q := fun {x q} hq => by simp [Int32.toNatClampNeg, hq]
  have nn : ∀ {x : Int32} {q : Nat}, x.toInt = (q : Int) → ¬ x < 0 := fun {x q} hq => by rw [Int32.lt_iff_toInt_lt, hq]; exact Int.not_lt.mpr (Int.natCast_nonneg _)
  have lx : xs.length.toInt32.toNatClampNeg = xs.length := cl (len_toInt hxl)
  have ly : ys.length.toInt32.toNatClampNeg = ys.length := cl (len_toInt hyl)
  obtain ⟨T', h', L', X', eT, N', Kp, A', stp⟩ := cpA X k1 k2 k5 w1 w2 w3 w4 rfl Aa Ab (Or.inl ⟨rfl, rfl⟩) (nn h1) (nn h2) (nn h3) (by rw [cl h1, cl h3, lx]; exact h4) (by rw [cl h2, cl h3, ly]; exact h5) rfl (by rw [cl h2, cl h3, List.length_map]; exact h5) N hge
    (g := mkF mm pc Ls (.int jn :: .int jd :: .ref b :: .int js :: .ref a :: st)) rfl (hsz.trans k4.symm) rfl (hb k3 hd) hf (W := Wd) (by show 2 * 0 + _ ≤ _; omega) hl
  rw [cl h1, cl h2, cl h3] at A'
  have us : ((List.range m).map fun i => (xs.map Value.int).getD (sp + i) (.int 0)) = ((xs.drop sp).take m).map Value.int := by
    apply List.ext_getElem?
    intro t
    by_cases ht : t < m
    · have : sp + t < xs.length := by omega
      simp [ht, List.getD_eq_getElem?_getD, this, List.getElem?_take, List.getElem?_drop]
    · simp [ht, List.getElem?_take]
  rw [us] at A'
  obtain ⟨s₂, v, h1', rest⟩ := hr T' L' N' X' (by
    rw [eT]
    obtain ⟨c', Ar, -, Sz, -, Hs, -⟩ := A'
    obtain ⟨cb, Ab0, Sb, EXb⟩ := Ob
    refine H.keep hb' Kp ⟨c', Ar, ?_, EXb.keep Kp⟩
    rw [ly] at Sz
    apply Array.ext_getElem?
    intro t
    by_cases ht : t < c'.slots.size
    · have hl : (ys.take dp ++ (xs.drop sp).take m ++ ys.drop (dp + m)).length = ys.length := by simp; omega
      have hlt : t < (ys.take dp ++ (xs.drop sp).take m ++ ys.drop (dp + m)).length := by omega
      rw [Hs t ht, List.getElem?_toArray]
      have q : List.map Value.int ys = List.map Value.int ys := rfl
      rw [← List.map_take, ← List.map_drop, ← List.map_append, ← List.map_append, List.getD_eq_getElem?_getD, List.getElem?_map, List.getElem?_eq_getElem hlt]; rfl
    · rw [Array.getElem?_eq_none (by omega), List.getElem?_toArray, List.getElem?_eq_none (by simp; omega)])
  exact ⟨s₂, v, stp _ h1', rest⟩
end Steps
theorem at_last {ds : Hp} {e : Nat × D} : (ds ++ [e])[ds.length]? = some e := List.getElem?_concat_length
theorem at_left {ds ext : Hp} {q : Nat × D} {i : Nat} (h : ds[i]? = some q) : (ds ++ ext)[i]? = some q := by
  rw [List.getElem?_append_left (List.getElem?_eq_some_iff.mp h).1]; exact h
theorem at_ext {ds ext : Hp} {q : Nat × D} {t : Nat} (h : ext[t]? = some q) : (ds ++ ext)[ds.length + t]? = some q := by
  rw [List.getElem?_append_right (Nat.le_add_right _ _), Nat.add_sub_cancel_left]; exact h
theorem set_ext {ds ext : Hp} {e : Nat × D} {t : Nat} : (ds ++ ext).set (ds.length + t) e = ds ++ ext.set t e := by
  rw [List.set_append, if_neg (Nat.not_lt.mpr (Nat.le_add_right _ _)), Nat.add_sub_cancel_left]
theorem set_last {ds : Hp} {e e' : Nat × D} : (ds ++ [e]).set ds.length e' = ds ++ [e'] := by
  rw [List.set_append, if_neg (Nat.lt_irrefl _), Nat.sub_self]; rfl
/-! small facts on ints -/
theorem i0 : (0 : Int32).toInt = 0 := rfl
theorem ibound (x : Int32) : -2147483648 ≤ x.toInt ∧ x.toInt < 2147483648 := ⟨x.le_toInt, x.toInt_lt⟩
theorem iadd_eq {x z : Int32} (h1 : -2147483648 ≤ x.toInt + z.toInt) (h2 : x.toInt + z.toInt < 2147483648) : (x + z).toInt = x.toInt + z.toInt := XT.add32 ⟨h1, h2⟩
theorem isub_eq {x z : Int32} (h1 : -2147483648 ≤ x.toInt - z.toInt) (h2 : x.toInt - z.toInt < 2147483648) : (x - z).toInt = x.toInt - z.toInt := XT.sub32 ⟨h1, h2⟩
theorem iinj {x z : Int32} (h : x.toInt = z.toInt) : x = z := Int32.toInt_inj.mp h
theorem drop_cons {α : Type} {xs rest : List α} {x : α} {j : Nat} (h : xs.drop j = x :: rest) : xs[j]? = some x ∧ xs.drop (j + 1) = rest ∧ j < xs.length := by
  have h1 : xs[j]? = some x := by
    have q : (xs.drop j)[0]? = some x := by rw [h]; rfl
    rwa [List.getElem?_drop, Nat.add_zero] at q
  refine ⟨h1, ?_, (List.getElem?_eq_some_iff.mp h1).1⟩
  have q : (xs.drop j).drop 1 = rest := by rw [h]; rfl
  rwa [List.drop_drop] at q
theorem drop_none {α : Type} {xs : List α} {j : Nat} (h : xs.drop j = []) : xs.length ≤ j := List.drop_eq_nil_iff.mp h
theorem isucc {x : Int32} {j : Nat} (h : x.toInt = (j : Int)) (hj : j < 2147483647) : (x + 1).toInt = ((j + 1 : Nat) : Int) := by
  have q : (1 : Int32).toInt = 1 := rfl
  rw [iadd_eq (by rw [q]; omega) (by rw [q]; omega), q]; omega
theorem ilt5 {x : Int32} (h0 : 0 ≤ x.toInt) (h1 : x.toInt < 5) : x = 0 ∨ x = 1 ∨ x = 2 ∨ x = 3 ∨ x = 4 := by
  have : x.toInt = 0 ∨ x.toInt = 1 ∨ x.toInt = 2 ∨ x.toInt = 3 ∨ x.toInt = 4 := by omega
  rcases this with e | e | e | e | e
  · exact Or.inl (iinj e)
  · exact Or.inr (Or.inl (iinj e))
  · exact Or.inr (Or.inr (Or.inl (iinj e)))
  · exact Or.inr (Or.inr (Or.inr (Or.inl (iinj e))))
  · exact Or.inr (Or.inr (Or.inr (Or.inr (iinj e))))
theorem ilt4 {x : Int32} (h0 : 0 ≤ x.toInt) (h1 : x.toInt < 4) : x = 0 ∨ x = 1 ∨ x = 2 ∨ x = 3 := by
  have : x.toInt = 0 ∨ x.toInt = 1 ∨ x.toInt = 2 ∨ x.toInt = 3 := by omega
  rcases this with e | e | e | e
  · exact Or.inl (iinj e)
  · exact Or.inr (Or.inl (iinj e))
  · exact Or.inr (Or.inr (Or.inl (iinj e)))
  · exact Or.inr (Or.inr (Or.inr (iinj e)))
theorem len32 {m : Nat} (h : m < 2147483648) : (m.toInt32).toInt = (m : Int) := len_toInt h
end Jvm.Own
namespace Jvm.Pilot.@@N@@
open Jvm Jvm.ClassFile Sem Op Lib Jvm.Free Jvm.Stand Jvm.LawKit Jvm.RoadKit Jvm.Own Bundle Jvm.Pilot.@@N@@.Jvm.D
theorem pf_0 : plainFor x = true := by first | exact plainFor_of_name (by first | (simp [plainName, overriddenIn]; done) | decide +kernel) | decide +kernel
theorem pd___B_V : parseMethodDescriptor "([B)V" = some ⟨[(.array .byte)], none⟩ := by decide +kernel
theorem pd___Z : parseMethodDescriptor "()Z" = some ⟨[], (some .boolean)⟩ := by decide +kernel
theorem pd___I : parseMethodDescriptor "()I" = some ⟨[], (some .int)⟩ := by decide +kernel
theorem pd__J__B : parseMethodDescriptor "(J)[B" = some ⟨[.long], (some (.array .byte))⟩ := by decide +kernel
theorem pd___BII__B : parseMethodDescriptor "([BII)[B" = some ⟨[(.array .byte), .int, .int], (some (.array .byte))⟩ := by decide +kernel
theorem pd__II_V : parseMethodDescriptor "(II)V" = some ⟨[.int, .int], none⟩ := by decide +kernel
theorem pd__II_I : parseMethodDescriptor "(II)I" = some ⟨[.int, .int], (some .int)⟩ := by decide +kernel
theorem pf_1 : plainFor (⟨"com/example/hazusu/hazusu/StateBytes$Reader", "<init>", "([B)V"⟩ : MethodName) = true := by first | exact plainFor_of_name (by first | (simp [plainName, overriddenIn]; done) | decide +kernel) | decide +kernel
theorem d1_0 : decode prog_29_method_1_code 0 = .ok (.aload_n 0, 1) := by decide +kernel
theorem d1_1 : decode prog_29_method_1_code 1 = .ok (.invokespecial 1, 3) := by decide +kernel
theorem d1_4 : decode prog_29_method_1_code 4 = .ok (.aload_n 0, 1) := by decide +kernel
theorem d1_5 : decode prog_29_method_1_code 5 = .ok (.aload_n 1, 1) := by decide +kernel
theorem d1_6 : decode prog_29_method_1_code 6 = .ok (.putfield 7, 3) := by decide +kernel
theorem d1_9 : decode prog_29_method_1_code 9 = .ok (.return_, 1) := by decide +kernel
theorem pf_3 : plainFor (⟨"com/example/hazusu/hazusu/StateBytes$Reader", "atEnd", "()Z"⟩ : MethodName) = true := by first | exact plainFor_of_name (by first | (simp [plainName, overriddenIn]; done) | decide +kernel) | decide +kernel
theorem d3_0 : decode prog_29_method_9_code 0 = .ok (.aload_n 0, 1) := by decide +kernel
theorem d3_1 : decode prog_29_method_9_code 1 = .ok (.getfield 13, 3) := by decide +kernel
theorem d3_4 : decode prog_29_method_9_code 4 = .ok (.aload_n 0, 1) := by decide +kernel
theorem d3_5 : decode prog_29_method_9_code 5 = .ok (.getfield 7, 3) := by decide +kernel
theorem d3_8 : decode prog_29_method_9_code 8 = .ok (.arraylength, 1) := by decide +kernel
theorem d3_9 : decode prog_29_method_9_code 9 = .ok (.if_icmp .ne 7, 3) := by decide +kernel
theorem d3_12 : decode prog_29_method_9_code 12 = .ok (.iconst 1, 1) := by decide +kernel
theorem d3_13 : decode prog_29_method_9_code 13 = .ok (.goto 4, 3) := by decide +kernel
theorem d3_16 : decode prog_29_method_9_code 16 = .ok (.iconst 0, 1) := by decide +kernel
theorem d3_17 : decode prog_29_method_9_code 17 = .ok (.ireturn, 1) := by decide +kernel
theorem pf_9 : plainFor (⟨"com/example/hazusu/hazusu/StateBytes$Reader", "readByte", "()I"⟩ : MethodName) = true := by first | exact plainFor_of_name (by first | (simp [plainName, overriddenIn]; done) | decide +kernel) | decide +kernel
theorem d9_0 : decode prog_29_method_2_code 0 = .ok (.aload_n 0, 1) := by decide +kernel
theorem d9_1 : decode prog_29_method_2_code 1 = .ok (.getfield 13, 3) := by decide +kernel
theorem d9_4 : decode prog_29_method_2_code 4 = .ok (.aload_n 0, 1) := by decide +kernel
theorem d9_5 : decode prog_29_method_2_code 5 = .ok (.getfield 7, 3) := by decide +kernel
theorem d9_8 : decode prog_29_method_2_code 8 = .ok (.arraylength, 1) := by decide +kernel
theorem d9_9 : decode prog_29_method_2_code 9 = .ok (.if_icmp .ne 13, 3) := by decide +kernel
theorem d9_12 : decode prog_29_method_2_code 12 = .ok (.new 17, 3) := by decide +kernel
theorem d9_15 : decode prog_29_method_2_code 15 = .ok (.dup, 1) := by decide +kernel
theorem d9_16 : decode prog_29_method_2_code 16 = .ok (.ldc 19, 2) := by decide +kernel
theorem d9_18 : decode prog_29_method_2_code 18 = .ok (.invokespecial 21, 3) := by decide +kernel
theorem d9_21 : decode prog_29_method_2_code 21 = .ok (.athrow, 1) := by decide +kernel
theorem d9_22 : decode prog_29_method_2_code 22 = .ok (.aload_n 0, 1) := by decide +kernel
theorem d9_23 : decode prog_29_method_2_code 23 = .ok (.getfield 7, 3) := by decide +kernel
theorem d9_26 : decode prog_29_method_2_code 26 = .ok (.aload_n 0, 1) := by decide +kernel
theorem d9_27 : decode prog_29_method_2_code 27 = .ok (.dup, 1) := by decide +kernel
theorem d9_28 : decode prog_29_method_2_code 28 = .ok (.getfield 13, 3) := by decide +kernel
theorem d9_31 : decode prog_29_method_2_code 31 = .ok (.dup_x1, 1) := by decide +kernel
theorem d9_32 : decode prog_29_method_2_code 32 = .ok (.iconst 1, 1) := by decide +kernel
theorem d9_33 : decode prog_29_method_2_code 33 = .ok (.iadd, 1) := by decide +kernel
theorem d9_34 : decode prog_29_method_2_code 34 = .ok (.putfield 13, 3) := by decide +kernel
theorem d9_37 : decode prog_29_method_2_code 37 = .ok (.baload, 1) := by decide +kernel
theorem d9_38 : decode prog_29_method_2_code 38 = .ok (.sipush 255, 3) := by decide +kernel
theorem d9_41 : decode prog_29_method_2_code 41 = .ok (.iand, 1) := by decide +kernel
theorem d9_42 : decode prog_29_method_2_code 42 = .ok (.ireturn, 1) := by decide +kernel
theorem al_StateBytes_Reader (Z : State) (a0 : Array Value) (hw : ∀ d ∈ tables_1, d.before a0 Z = true) : ∀ f ∈ ([("com/example/hazusu/hazusu/StateBytes$Reader", "bytes", "[B"), ("com/example/hazusu/hazusu/StateBytes$Reader", "at", "I")] : List (String × String × String)), Laid Z a0 "com/example/hazusu/hazusu/StateBytes$Reader" f.1 f.2.1 f.2.2 ∧ ∃ t, parseFieldDescriptor f.2.2 = some t := by
  intro f hf
  simp only [List.mem_cons, List.not_mem_nil, or_false] at hf
  rcases hf with rfl | rfl
  · exact ⟨Or.inr (hw _ (List.mem_of_getElem? (i := 12) rfl)), (.array .byte), by decide⟩
  · exact ⟨Or.inl (hw _ (List.mem_of_getElem? (i := 19) rfl)), .int, by decide⟩
set_option maxRecDepth 65536 in
set_option maxHeartbeats 40000000 in
theorem ct_init (l : Launch) (Z : State) (h0 : Heap) (a0 : Array Value) (hw : ∀ d ∈ tables_1, d.before a0 Z = true) (dt : Hp) (b a : Nat) (xs : List Int32) :
    Ct l Z h0 (⟨"com/example/hazusu/hazusu/StateBytes$Reader", "<init>", "([B)V"⟩ : MethodName) prog_29_method_1_code 2 none [] ({ frames := 1, cells := 0, slots := 0, locals := 12 } : Room) #[(.ref a), (.ref b)] ((b, ba xs) :: (a, .inr ("com/example/hazusu/hazusu/StateBytes$Reader", [(("com/example/hazusu/hazusu/StateBytes$Reader", "bytes", "[B"), .null), (("com/example/hazusu/hazusu/StateBytes$Reader", "at", "I"), .int 0)])) :: dt) (fun v ds' => v = none ∧ ds' = (b, ba xs) :: (a, .inr ("com/example/hazusu/hazusu/StateBytes$Reader", [(("com/example/hazusu/hazusu/StateBytes$Reader", "bytes", "[B"), .ref b), (("com/example/hazusu/hazusu/StateBytes$Reader", "at", "I"), .int 0)])) :: dt) := by
  refine Ct.of_go (Ls := #[.val (.ref a), .val (.ref b)]) pf_1 (fun m => by first | (simp [entryFrame, mkF, argsToLocals, Value.category, maxLocals]; done) | rfl) (fun W K => ?_)
  generalize hQ : (fun v ds' => v = none ∧ ds' = (b, ba xs) :: (a, .inr ("com/example/hazusu/hazusu/StateBytes$Reader", [(("com/example/hazusu/hazusu/StateBytes$Reader", "bytes", "[B"), .ref b), (("com/example/hazusu/hazusu/StateBytes$Reader", "at", "I"), .int 0)])) :: dt : Option Value → Hp → Prop) = Q
  refine go_aloadN (pc' := 1) K d1_0 rfl rfl rfl ?_
  refine go_objinit (pc' := 4) (Wd := 0) K (hw _ (List.mem_of_getElem? (i := 8) rfl)) (hw _ (List.mem_of_getElem? (i := 9) rfl)) (hw _ (List.mem_of_getElem? (i := 10) rfl)) d1_1 rfl rfl (by decide) (by decide) rfl ?_
  refine go_aloadN (pc' := 5) K d1_4 rfl rfl rfl ?_
  refine go_aloadN (pc' := 6) K d1_5 rfl rfl rfl ?_
  refine go_putfield (pc' := 9) (i := 1) (j := 0) (ty := (.array .byte)) (ds' := (b, ba xs) :: (a, .inr ("com/example/hazusu/hazusu/StateBytes$Reader", [(("com/example/hazusu/hazusu/StateBytes$Reader", "bytes", "[B"), .ref b), (("com/example/hazusu/hazusu/StateBytes$Reader", "at", "I"), .int 0)])) :: dt) (KS := [("com/example/hazusu/hazusu/StateBytes$Reader", "bytes", "[B"), ("com/example/hazusu/hazusu/StateBytes$Reader", "at", "I")]) K (hw _ (List.mem_of_getElem? (i := 11) rfl)) (Or.inr ⟨(hw _ (List.mem_of_getElem? (i := 12) rfl)), rfl, rfl⟩) (hw _ (List.mem_of_getElem? (i := 3) rfl)) rfl rfl rfl (al_StateBytes_Reader Z a0 hw) (by decide) (by decide) rfl rfl d1_6 rfl rfl ?_
  exact go_ret K d1_9 (by decide) (by decide) (by subst hQ; exact ⟨rfl, rfl⟩)
set_option maxRecDepth 65536 in
set_option maxHeartbeats 40000000 in
theorem ct_end (l : Launch) (Z : State) (h0 : Heap) (a0 : Array Value) (hw : ∀ d ∈ tables_1, d.before a0 Z = true) (dt : Hp) (b a m : Nat) (xs : List Int32) (i r : Int32) (hm : xs.length = m) (hr : (i = m.toInt32 ∧ r = 1) ∨ (i ≠ m.toInt32 ∧ r = 0)) :
    Ct l Z h0 (⟨"com/example/hazusu/hazusu/StateBytes$Reader", "atEnd", "()Z"⟩ : MethodName) prog_29_method_9_code 1 (some .boolean) [] ({ frames := 0, cells := 0, slots := 0, locals := 0 } : Room) #[(.ref a)] ((b, ba xs) :: (a, .inr ("com/example/hazusu/hazusu/StateBytes$Reader", [(("com/example/hazusu/hazusu/StateBytes$Reader", "bytes", "[B"), .ref b), (("com/example/hazusu/hazusu/StateBytes$Reader", "at", "I"), .int i)])) :: dt) (fun v ds' => v = some (.int r) ∧ ds' = (b, ba xs) :: (a, .inr ("com/example/hazusu/hazusu/StateBytes$Reader", [(("com/example/hazusu/hazusu/StateBytes$Reader", "bytes", "[B"), .ref b), (("com/example/hazusu/hazusu/StateBytes$Reader", "at", "I"), .int i)])) :: dt) := by
  refine Ct.of_go (Ls := #[.val (.ref a)]) pf_3 (fun m => by first | (simp [entryFrame, mkF, argsToLocals, Value.category, maxLocals]; done) | rfl) (fun W K => ?_)
  generalize hQ : (fun v ds' => v = some (.int r) ∧ ds' = (b, ba xs) :: (a, .inr ("com/example/hazusu/hazusu/StateBytes$Reader", [(("com/example/hazusu/hazusu/StateBytes$Reader", "bytes", "[B"), .ref b), (("com/example/hazusu/hazusu/StateBytes$Reader", "at", "I"), .int i)])) :: dt : Option Value → Hp → Prop) = Q
  refine go_aloadN (pc' := 1) K d3_0 rfl rfl rfl ?_
  refine go_getfield (pc' := 4) (i := 1) (j := 1) K (hw _ (List.mem_of_getElem? (i := 18) rfl)) rfl rfl d3_1 rfl ?_
  refine go_aloadN (pc' := 5) K d3_4 rfl rfl rfl ?_
  refine go_getfield (pc' := 8) (i := 1) (j := 0) K (hw _ (List.mem_of_getElem? (i := 11) rfl)) rfl rfl d3_5 rfl ?_
  refine go_alen (pc' := 9) (i := 0) (z := m.toInt32) K rfl d3_8 (by rw [List.length_map, hm]) rfl ?_
  refine go_ic_ne (pt := 16) (pc' := 12) K d3_9 (by decide) (by decide) rfl (fun (hc9 : i ≠ m.toInt32) => ?_) (fun (hc9 : i = m.toInt32) => ?_)
  ·
    refine go_iconst (pc' := 17) (v := 0) K d3_16 rfl rfl ?_
    exact go_zret K d3_17 (by decide) (by decide) (Or.inl rfl) (by subst hQ; refine ⟨?_, rfl⟩; rcases hr with ⟨e1, e2⟩ | ⟨e1, e2⟩ <;> first | (rw [e2]; done) | exact absurd hc9 e1 | exact absurd e1 hc9)
  ·
    refine go_iconst (pc' := 13) (v := 1) K d3_12 rfl rfl ?_
    refine go_goto (pc' := 17) K d3_13 (by decide) (by decide) ?_
    exact go_zret K d3_17 (by decide) (by decide) (Or.inr rfl) (by subst hQ; refine ⟨?_, rfl⟩; rcases hr with ⟨e1, e2⟩ | ⟨e1, e2⟩ <;> first | (rw [e2]; done) | exact absurd hc9 e1 | exact absurd e1 hc9)
set_option maxRecDepth 65536 in
set_option maxHeartbeats 40000000 in
theorem ct_rb (l : Launch) (Z : State) (h0 : Heap) (a0 : Array Value) (hw : ∀ d ∈ tables_1, d.before a0 Z = true) (dt : Hp) (b a m j : Nat) (xs : List Int32) (i x : Int32) (hm : xs.length = m) (hne : i ≠ m.toInt32) (hj : i.toInt = (j : Int)) (hx : xs[j]? = some x) :
    Ct l Z h0 (⟨"com/example/hazusu/hazusu/StateBytes$Reader", "readByte", "()I"⟩ : MethodName) prog_29_method_2_code 1 (some .int) [] ({ frames := 0, cells := 0, slots := 0, locals := 0 } : Room) #[(.ref a)] ((b, ba xs) :: (a, .inr ("com/example/hazusu/hazusu/StateBytes$Reader", [(("com/example/hazusu/hazusu/StateBytes$Reader", "bytes", "[B"), .ref b), (("com/example/hazusu/hazusu/StateBytes$Reader", "at", "I"), .int i)])) :: dt) (fun v ds' => v = some (.int (x &&& 255)) ∧ ds' = (b, ba xs) :: (a, .inr ("com/example/hazusu/hazusu/StateBytes$Reader", [(("com/example/hazusu/hazusu/StateBytes$Reader", "bytes", "[B"), .ref b), (("com/example/hazusu/hazusu/StateBytes$Reader", "at", "I"), .int (i + 1))])) :: dt) := by
  refine Ct.of_go (Ls := #[.val (.ref a)]) pf_9 (fun m => by first | (simp [entryFrame, mkF, argsToLocals, Value.category, maxLocals]; done) | rfl) (fun W K => ?_)
  generalize hQ : (fun v ds' => v = some (.int (x &&& 255)) ∧ ds' = (b, ba xs) :: (a, .inr ("com/example/hazusu/hazusu/StateBytes$Reader", [(("com/example/hazusu/hazusu/StateBytes$Reader", "bytes", "[B"), .ref b), (("com/example/hazusu/hazusu/StateBytes$Reader", "at", "I"), .int (i + 1))])) :: dt : Option Value → Hp → Prop) = Q
  refine go_aloadN (pc' := 1) K d9_0 rfl rfl rfl ?_
  refine go_getfield (pc' := 4) (i := 1) (j := 1) K (hw _ (List.mem_of_getElem? (i := 18) rfl)) rfl rfl d9_1 rfl ?_
  refine go_aloadN (pc' := 5) K d9_4 rfl rfl rfl ?_
  refine go_getfield (pc' := 8) (i := 1) (j := 0) K (hw _ (List.mem_of_getElem? (i := 11) rfl)) rfl rfl d9_5 rfl ?_
  refine go_alen (pc' := 9) (i := 0) (z := m.toInt32) K rfl d9_8 (by rw [List.length_map, hm]) rfl ?_
  refine go_ic_ne_t (pc' := 22) K d9_9 hne (by decide) (by decide) ?_
  refine go_aloadN (pc' := 23) K d9_22 rfl rfl rfl ?_
  refine go_getfield (pc' := 26) (i := 1) (j := 0) K (hw _ (List.mem_of_getElem? (i := 11) rfl)) rfl rfl d9_23 rfl ?_
  refine go_aloadN (pc' := 27) K d9_26 rfl rfl rfl ?_
  refine go_dup (pc' := 28) K d9_27 rfl rfl ?_
  refine go_getfield (pc' := 31) (i := 1) (j := 1) K (hw _ (List.mem_of_getElem? (i := 18) rfl)) rfl rfl d9_28 rfl ?_
  refine go_dup_x1 (pc' := 32) K d9_31 rfl rfl rfl ?_
  refine go_iconst (pc' := 33) (v := 1) K d9_32 rfl rfl ?_
  refine go_iadd (pc' := 34) K d9_33 rfl ?_
  refine go_putfield (pc' := 37) (i := 1) (j := 1) (ty := .int) (ds' := (b, ba xs) :: (a, .inr ("com/example/hazusu/hazusu/StateBytes$Reader", [(("com/example/hazusu/hazusu/StateBytes$Reader", "bytes", "[B"), .ref b), (("com/example/hazusu/hazusu/StateBytes$Reader", "at", "I"), .int (i + 1))])) :: dt) (KS := [("com/example/hazusu/hazusu/StateBytes$Reader", "bytes", "[B"), ("com/example/hazusu/hazusu/StateBytes$Reader", "at", "I")]) K (hw _ (List.mem_of_getElem? (i := 18) rfl)) (Or.inl (hw _ (List.mem_of_getElem? (i := 19) rfl))) (hw _ (List.mem_of_getElem? (i := 3) rfl)) rfl rfl rfl (al_StateBytes_Reader Z a0 hw) (by decide) (by decide) rfl rfl d9_34 rfl rfl ?_
  refine go_baload (pc' := 38) (i := 0) (m := j) (x := x) K rfl d9_37 hj hx rfl ?_
  refine go_sipush (pc' := 41) (v := 255) K d9_38 (by decide) rfl ?_
  refine go_iand (pc' := 42) K d9_41 rfl ?_
  exact go_iret K d9_42 (by decide) (by decide) (by subst hQ; exact ⟨rfl, rfl⟩)
theorem pf_4 : plainFor (⟨"com/example/hazusu/hazusu/StateBytes$Reader", "readBytes", "(J)[B"⟩ : MethodName) = true := by first | exact plainFor_of_name (by first | (simp [plainName, overriddenIn]; done) | decide +kernel) | decide +kernel
theorem d4_0 : decode prog_29_method_3_code 0 = .ok (.lload_n 1, 1) := by decide +kernel
theorem d4_1 : decode prog_29_method_3_code 1 = .ok (.lconst 0, 1) := by decide +kernel
theorem d4_2 : decode prog_29_method_3_code 2 = .ok (.lcmp, 1) := by decide +kernel
theorem d4_3 : decode prog_29_method_3_code 3 = .ok (.ifCond .lt 19, 3) := by decide +kernel
theorem d4_6 : decode prog_29_method_3_code 6 = .ok (.lload_n 1, 1) := by decide +kernel
theorem d4_7 : decode prog_29_method_3_code 7 = .ok (.aload_n 0, 1) := by decide +kernel
theorem d4_8 : decode prog_29_method_3_code 8 = .ok (.getfield 7, 3) := by decide +kernel
theorem d4_11 : decode prog_29_method_3_code 11 = .ok (.arraylength, 1) := by decide +kernel
theorem d4_12 : decode prog_29_method_3_code 12 = .ok (.aload_n 0, 1) := by decide +kernel
theorem d4_13 : decode prog_29_method_3_code 13 = .ok (.getfield 13, 3) := by decide +kernel
theorem d4_16 : decode prog_29_method_3_code 16 = .ok (.isub, 1) := by decide +kernel
theorem d4_17 : decode prog_29_method_3_code 17 = .ok (.i2l, 1) := by decide +kernel
theorem d4_18 : decode prog_29_method_3_code 18 = .ok (.lcmp, 1) := by decide +kernel
theorem d4_19 : decode prog_29_method_3_code 19 = .ok (.ifCond .le 17, 3) := by decide +kernel
theorem d4_22 : decode prog_29_method_3_code 22 = .ok (.new 17, 3) := by decide +kernel
theorem d4_25 : decode prog_29_method_3_code 25 = .ok (.dup, 1) := by decide +kernel
theorem d4_26 : decode prog_29_method_3_code 26 = .ok (.lload_n 1, 1) := by decide +kernel
theorem d4_32 : decode prog_29_method_3_code 32 = .ok (.invokespecial 21, 3) := by decide +kernel
theorem d4_35 : decode prog_29_method_3_code 35 = .ok (.athrow, 1) := by decide +kernel
theorem d4_36 : decode prog_29_method_3_code 36 = .ok (.aload_n 0, 1) := by decide +kernel
theorem d4_37 : decode prog_29_method_3_code 37 = .ok (.getfield 7, 3) := by decide +kernel
theorem d4_40 : decode prog_29_method_3_code 40 = .ok (.aload_n 0, 1) := by decide +kernel
theorem d4_41 : decode prog_29_method_3_code 41 = .ok (.getfield 13, 3) := by decide +kernel
theorem d4_44 : decode prog_29_method_3_code 44 = .ok (.aload_n 0, 1) := by decide +kernel
theorem d4_45 : decode prog_29_method_3_code 45 = .ok (.getfield 13, 3) := by decide +kernel
theorem d4_48 : decode prog_29_method_3_code 48 = .ok (.lload_n 1, 1) := by decide +kernel
theorem d4_49 : decode prog_29_method_3_code 49 = .ok (.l2i, 1) := by decide +kernel
theorem d4_50 : decode prog_29_method_3_code 50 = .ok (.iadd, 1) := by decide +kernel
theorem d4_51 : decode prog_29_method_3_code 51 = .ok (.invokestatic 28, 3) := by decide +kernel
theorem d4_54 : decode prog_29_method_3_code 54 = .ok (.astore_n 3, 1) := by decide +kernel
theorem d4_55 : decode prog_29_method_3_code 55 = .ok (.aload_n 0, 1) := by decide +kernel
theorem d4_56 : decode prog_29_method_3_code 56 = .ok (.dup, 1) := by decide +kernel
theorem d4_57 : decode prog_29_method_3_code 57 = .ok (.getfield 13, 3) := by decide +kernel
theorem d4_60 : decode prog_29_method_3_code 60 = .ok (.lload_n 1, 1) := by decide +kernel
theorem d4_61 : decode prog_29_method_3_code 61 = .ok (.l2i, 1) := by decide +kernel
theorem d4_62 : decode prog_29_method_3_code 62 = .ok (.iadd, 1) := by decide +kernel
theorem d4_63 : decode prog_29_method_3_code 63 = .ok (.putfield 13, 3) := by decide +kernel
theorem d4_66 : decode prog_29_method_3_code 66 = .ok (.aload_n 3, 1) := by decide +kernel
theorem d4_67 : decode prog_29_method_3_code 67 = .ok (.areturn, 1) := by decide +kernel
theorem pf_5 : plainFor (⟨"java/util/Arrays", "copyOfRange", "([BII)[B"⟩ : MethodName) = true := by first | exact plainFor_of_name (by first | (simp [plainName, overriddenIn]; done) | decide +kernel) | decide +kernel
theorem d5_0 : decode jdk_65_method_132_code 0 = .ok (.iload_n 1, 1) := by decide +kernel
theorem d5_1 : decode jdk_65_method_132_code 1 = .ok (.ifCond .ne 9, 3) := by decide +kernel
theorem d5_4 : decode jdk_65_method_132_code 4 = .ok (.iload_n 2, 1) := by decide +kernel
theorem d5_5 : decode jdk_65_method_132_code 5 = .ok (.aload_n 0, 1) := by decide +kernel
theorem d5_6 : decode jdk_65_method_132_code 6 = .ok (.arraylength, 1) := by decide +kernel
theorem d5_7 : decode jdk_65_method_132_code 7 = .ok (.if_icmp .eq 10, 3) := by decide +kernel
theorem d5_10 : decode jdk_65_method_132_code 10 = .ok (.aload_n 0, 1) := by decide +kernel
theorem d5_11 : decode jdk_65_method_132_code 11 = .ok (.iload_n 1, 1) := by decide +kernel
theorem d5_12 : decode jdk_65_method_132_code 12 = .ok (.iload_n 2, 1) := by decide +kernel
theorem d5_13 : decode jdk_65_method_132_code 13 = .ok (.invokestatic 339, 3) := by decide +kernel
theorem d5_16 : decode jdk_65_method_132_code 16 = .ok (.areturn, 1) := by decide +kernel
theorem d5_17 : decode jdk_65_method_132_code 17 = .ok (.aload_n 0, 1) := by decide +kernel
theorem d5_18 : decode jdk_65_method_132_code 18 = .ok (.invokevirtual 310, 3) := by decide +kernel
theorem d5_21 : decode jdk_65_method_132_code 21 = .ok (.checkcast 311, 3) := by decide +kernel
theorem d5_24 : decode jdk_65_method_132_code 24 = .ok (.areturn, 1) := by decide +kernel
theorem pf_6 : plainFor (⟨"java/util/Arrays", "copyOfRangeByte", "([BII)[B"⟩ : MethodName) = true := by first | exact plainFor_of_name (by first | (simp [plainName, overriddenIn]; done) | decide +kernel) | decide +kernel
theorem d6_0 : decode jdk_65_method_133_code 0 = .ok (.iload_n 1, 1) := by decide +kernel
theorem d6_1 : decode jdk_65_method_133_code 1 = .ok (.iload_n 2, 1) := by decide +kernel
theorem d6_2 : decode jdk_65_method_133_code 2 = .ok (.invokestatic 343, 3) := by decide +kernel
theorem d6_5 : decode jdk_65_method_133_code 5 = .ok (.iload_n 2, 1) := by decide +kernel
theorem d6_6 : decode jdk_65_method_133_code 6 = .ok (.iload_n 1, 1) := by decide +kernel
theorem d6_7 : decode jdk_65_method_133_code 7 = .ok (.isub, 1) := by decide +kernel
theorem d6_8 : decode jdk_65_method_133_code 8 = .ok (.istore_n 3, 1) := by decide +kernel
theorem d6_9 : decode jdk_65_method_133_code 9 = .ok (.iload_n 3, 1) := by decide +kernel
theorem d6_10 : decode jdk_65_method_133_code 10 = .ok (.newarray .byte, 2) := by decide +kernel
theorem d6_12 : decode jdk_65_method_133_code 12 = .ok (.astore 4, 2) := by decide +kernel
theorem d6_14 : decode jdk_65_method_133_code 14 = .ok (.aload_n 0, 1) := by decide +kernel
theorem d6_15 : decode jdk_65_method_133_code 15 = .ok (.iload_n 1, 1) := by decide +kernel
theorem d6_16 : decode jdk_65_method_133_code 16 = .ok (.aload 4, 2) := by decide +kernel
theorem d6_18 : decode jdk_65_method_133_code 18 = .ok (.iconst 0, 1) := by decide +kernel
theorem d6_19 : decode jdk_65_method_133_code 19 = .ok (.aload_n 0, 1) := by decide +kernel
theorem d6_20 : decode jdk_65_method_133_code 20 = .ok (.arraylength, 1) := by decide +kernel
theorem d6_21 : decode jdk_65_method_133_code 21 = .ok (.iload_n 1, 1) := by decide +kernel
theorem d6_22 : decode jdk_65_method_133_code 22 = .ok (.isub, 1) := by decide +kernel
theorem d6_23 : decode jdk_65_method_133_code 23 = .ok (.iload_n 3, 1) := by decide +kernel
theorem d6_24 : decode jdk_65_method_133_code 24 = .ok (.invokestatic 304, 3) := by decide +kernel
theorem d6_27 : decode jdk_65_method_133_code 27 = .ok (.invokestatic 150, 3) := by decide +kernel
theorem d6_30 : decode jdk_65_method_133_code 30 = .ok (.aload 4, 2) := by decide +kernel
theorem d6_32 : decode jdk_65_method_133_code 32 = .ok (.areturn, 1) := by decide +kernel
theorem pf_7 : plainFor (⟨"java/util/Arrays", "checkLength", "(II)V"⟩ : MethodName) = true := by first | exact plainFor_of_name (by first | (simp [plainName, overriddenIn]; done) | decide +kernel) | decide +kernel
theorem d7_0 : decode jdk_65_method_131_code 0 = .ok (.iload_n 1, 1) := by decide +kernel
theorem d7_1 : decode jdk_65_method_131_code 1 = .ok (.iload_n 0, 1) := by decide +kernel
theorem d7_2 : decode jdk_65_method_131_code 2 = .ok (.if_icmp .ge 35, 3) := by decide +kernel
theorem d7_5 : decode jdk_65_method_131_code 5 = .ok (.new 43, 3) := by decide +kernel
theorem d7_8 : decode jdk_65_method_131_code 8 = .ok (.dup, 1) := by decide +kernel
theorem d7_9 : decode jdk_65_method_131_code 9 = .ok (.new 45, 3) := by decide +kernel
theorem d7_12 : decode jdk_65_method_131_code 12 = .ok (.dup, 1) := by decide +kernel
theorem d7_13 : decode jdk_65_method_131_code 13 = .ok (.invokespecial 47, 3) := by decide +kernel
theorem d7_16 : decode jdk_65_method_131_code 16 = .ok (.iload_n 0, 1) := by decide +kernel
theorem d7_17 : decode jdk_65_method_131_code 17 = .ok (.invokevirtual 54, 3) := by decide +kernel
theorem d7_20 : decode jdk_65_method_131_code 20 = .ok (.ldc_w 337, 3) := by decide +kernel
theorem d7_23 : decode jdk_65_method_131_code 23 = .ok (.invokevirtual 50, 3) := by decide +kernel
theorem d7_26 : decode jdk_65_method_131_code 26 = .ok (.iload_n 1, 1) := by decide +kernel
theorem d7_27 : decode jdk_65_method_131_code 27 = .ok (.invokevirtual 54, 3) := by decide +kernel
theorem d7_30 : decode jdk_65_method_131_code 30 = .ok (.invokevirtual 61, 3) := by decide +kernel
theorem d7_33 : decode jdk_65_method_131_code 33 = .ok (.invokespecial 65, 3) := by decide +kernel
theorem d7_36 : decode jdk_65_method_131_code 36 = .ok (.athrow, 1) := by decide +kernel
theorem d7_37 : decode jdk_65_method_131_code 37 = .ok (.return_, 1) := by decide +kernel
theorem pf_8 : plainFor (⟨"java/lang/Math", "min", "(II)I"⟩ : MethodName) = true := by first | exact plainFor_of_name (by first | (simp [plainName, overriddenIn]; done) | decide +kernel) | decide +kernel
theorem d8_0 : decode jdk_29_method_69_code 0 = .ok (.iload_n 0, 1) := by decide +kernel
theorem d8_1 : decode jdk_29_method_69_code 1 = .ok (.iload_n 1, 1) := by decide +kernel
theorem d8_2 : decode jdk_29_method_69_code 2 = .ok (.if_icmp .gt 7, 3) := by decide +kernel
theorem d8_5 : decode jdk_29_method_69_code 5 = .ok (.iload_n 0, 1) := by decide +kernel
theorem d8_6 : decode jdk_29_method_69_code 6 = .ok (.goto 4, 3) := by decide +kernel
theorem d8_9 : decode jdk_29_method_69_code 9 = .ok (.iload_n 1, 1) := by decide +kernel
theorem d8_10 : decode jdk_29_method_69_code 10 = .ok (.ireturn, 1) := by decide +kernel
def own_min (x z : Int32) : Int32 := if z.toInt < x.toInt then z else x
set_option maxRecDepth 65536 in
set_option maxHeartbeats 40000000 in
theorem ct_min (l : Launch) (Z : State) (h0 : Heap) (a0 : Array Value) (hw : ∀ d ∈ tables_1, d.before a0 Z = true) (ds : Hp) (x z : Int32) :
    Ct l Z h0 (⟨"java/lang/Math", "min", "(II)I"⟩ : MethodName) jdk_29_method_69_code 2 (some .int) [] ({ frames := 0, cells := 0, slots := 0, locals := 0 } : Room) #[(.int x), (.int z)] ds (fun v ds' => v = some (.int (own_min x z)) ∧ ds' = ds) := by
  refine Ct.of_go (Ls := #[.val (.int x), .val (.int z)]) pf_8 (fun m => by first | (simp [entryFrame, mkF, argsToLocals, Value.category, maxLocals]; done) | rfl) (fun W K => ?_)
  generalize hQ : (fun v ds' => v = some (.int (own_min x z)) ∧ ds' = ds : Option Value → Hp → Prop) = Q
  refine go_iloadN (pc' := 1) K d8_0 rfl rfl ?_
  refine go_iloadN (pc' := 2) K d8_1 rfl rfl ?_
  refine go_ic_gt (pt := 9) (pc' := 5) K d8_2 (by decide) (by decide) rfl (fun (hc2 : z.toInt < x.toInt) => ?_) (fun (hc2 : x.toInt ≤ z.toInt) => ?_)
  ·
    refine go_iloadN (pc' := 10) K d8_9 rfl rfl ?_
    exact go_iret K d8_10 (by decide) (by decide) (by subst hQ; refine ⟨?_, rfl⟩; unfold own_min; rw [if_pos hc2])
  ·
    refine go_iloadN (pc' := 6) K d8_5 rfl rfl ?_
    refine go_goto (pc' := 10) K d8_6 (by decide) (by decide) ?_
    exact go_iret K d8_10 (by decide) (by decide) (by subst hQ; refine ⟨?_, rfl⟩; unfold own_min; rw [if_neg (Int.not_lt.mpr hc2)])
set_option maxRecDepth 65536 in
set_option maxHeartbeats 40000000 in
theorem ct_chk (l : Launch) (Z : State) (h0 : Heap) (a0 : Array Value) (hw : ∀ d ∈ tables_1, d.before a0 Z = true) (ds : Hp) (x z : Int32) (hle : x.toInt ≤ z.toInt) :
    Ct l Z h0 (⟨"java/util/Arrays", "checkLength", "(II)V"⟩ : MethodName) jdk_65_method_131_code 2 none [] ({ frames := 0, cells := 0, slots := 0, locals := 0 } : Room) #[(.int x), (.int z)] ds (fun v ds' => v = none ∧ ds' = ds) := by
  refine Ct.of_go (Ls := #[.val (.int x), .val (.int z)]) pf_7 (fun m => by first | (simp [entryFrame, mkF, argsToLocals, Value.category, maxLocals]; done) | rfl) (fun W K => ?_)
  generalize hQ : (fun v ds' => v = none ∧ ds' = ds : Option Value → Hp → Prop) = Q
  refine go_iloadN (pc' := 1) K d7_0 rfl rfl ?_
  refine go_iloadN (pc' := 2) K d7_1 rfl rfl ?_
  refine go_ic_ge_t (pc' := 37) K d7_2 hle (by decide) (by decide) ?_
  exact go_ret K d7_37 (by decide) (by decide) (by subst hQ; exact ⟨rfl, rfl⟩)
theorem own_cpy (xs : List Int32) (m : Nat) (hm : m ≤ xs.length) : (List.replicate m (0 : Int32)).take 0 ++ (xs.drop 0).take m ++ (List.replicate m (0 : Int32)).drop (0 + m) = xs.take m := by
  rw [List.take_zero, List.nil_append, List.drop_zero, Nat.zero_add, List.drop_eq_nil_of_le (by rw [List.length_replicate]; exact Nat.le_refl _), List.append_nil]
theorem own_rep (m : Nat) : ∀ x ∈ List.replicate m (0 : Int32), fits .byte (.int x) = true := fun x hx => by rw [(List.mem_replicate.mp hx).2]; rfl
set_option maxRecDepth 65536 in
set_option maxHeartbeats 40000000 in
theorem ct_crb (l : Launch) (Z : State) (h0 : Heap) (a0 : Array Value) (hw : ∀ d ∈ tables_1, d.before a0 Z = true) (ds : Hp) (i b m : Nat) (xs : List Int32) (k : Int32) (ha : ds[i]? = some (b, ba xs)) (hl7 : xs.length ≤ 7) (hfit : ∀ x ∈ xs, fits .byte (.int x) = true) (hk : k.toInt = (m : Int)) (hmx : m ≤ xs.length) :
    Ct l Z h0 (⟨"java/util/Arrays", "copyOfRangeByte", "([BII)[B"⟩ : MethodName) jdk_65_method_133_code 5 (some (.array .byte)) [] ({ frames := 1, cells := 1, slots := 7, locals := 48 } : Room) #[(.ref b), (.int 0), (.int k)] ds (fun v ds' => ∃ (u : Nat) (d : D), v = some (.ref u) ∧ ds' = ds ++ [(u, d)]) := by
  refine Ct.of_go (Ls := #[.val (.ref b), .val (.int 0), .val (.int k), .unset, .unset]) pf_6 (fun m => by first | (simp [entryFrame, mkF, argsToLocals, Value.category, maxLocals]; done) | rfl) (fun W K => ?_)
  generalize hQ : (fun v ds' => ∃ (u : Nat) (d : D), v = some (.ref u) ∧ ds' = ds ++ [(u, d)] : Option Value → Hp → Prop) = Q
  refine go_iloadN (pc' := 1) K d6_0 rfl rfl ?_
  refine go_iloadN (pc' := 2) K d6_1 rfl rfl ?_
  refine go_static (pc' := 5) (Wd := 0) (y' := ⟨"java/util/Arrays", "checkLength", "(II)V"⟩) (argsL := [(.int 0), (.int k)]) (rest := []) K (hw _ (List.mem_of_getElem? (i := 41) rfl)) (hw _ (List.mem_of_getElem? (i := 42) rfl)) (hw _ (List.mem_of_getElem? (i := 27) rfl)) (hw _ (List.mem_of_getElem? (i := 43) rfl)) d6_2 (ct_chk l Z h0 a0 hw _ 0 k (by have q : (0 : Int32).toInt = 0 := rfl; omega)) (lenOf pd__II_V rfl) rfl rfl (by decide) rfl (by decide) (by decide) (by decide) (by decide) rfl ?_
  rintro _ ds' ⟨rfl, hds⟩
  rw [hds]
  show Go W Q ds 0 0 5 #[.val (.ref b), .val (.int 0), .val (.int k), .unset, .unset] []
  refine go_iloadN (pc' := 6) K d6_5 rfl rfl ?_
  refine go_iloadN (pc' := 7) K d6_6 rfl rfl ?_
  refine go_isub (pc' := 8) K d6_7 rfl ?_
  have hk0 : k - 0 = k := by rw [Int32.sub_zero]
  rw [hk0]
  refine go_istoreN (pc' := 9) (Ls' := #[.val (.ref b), .val (.int 0), .val (.int k), .val (.int k), .unset]) K d6_8 rfl rfl ?_
  refine go_iloadN (pc' := 10) K d6_9 rfl rfl ?_
  refine go_newB (pc' := 12) (m := m) (cap := 7) K (hw _ (List.mem_of_getElem? (i := 1) rfl)) d6_10 hk (by omega) (by decide) (by decide) (by decide) rfl (fun u hgu hlu => ?_)
  show Go W Q (ds ++ [(u, ba (List.replicate m 0))]) 1 7 12 #[.val (.ref b), .val (.int 0), .val (.int k), .val (.int k), .unset] [(.ref u)]
  refine go_astore (pc' := 14) (Ls' := #[.val (.ref b), .val (.int 0), .val (.int k), .val (.int k), .val (.ref u)]) K d6_12 rfl rfl rfl ?_
  refine go_aloadN (pc' := 15) K d6_14 rfl rfl rfl ?_
  refine go_iloadN (pc' := 16) K d6_15 rfl rfl ?_
  refine go_aload (pc' := 18) K d6_16 rfl rfl rfl ?_
  refine go_iconst (pc' := 19) (v := 0) K d6_18 rfl rfl ?_
  refine go_aloadN (pc' := 20) K d6_19 rfl rfl rfl ?_
  refine go_alen (pc' := 21) (i := i) (z := xs.length.toInt32) K (at_left ha) d6_20 (by rw [List.length_map]) rfl ?_
  refine go_iloadN (pc' := 22) K d6_21 rfl rfl ?_
  refine go_isub (pc' := 23) K d6_22 rfl ?_
  have hl0 : xs.length.toInt32 - 0 = xs.length.toInt32 := by rw [Int32.sub_zero]
  rw [hl0]
  refine go_iloadN (pc' := 24) K d6_23 rfl rfl ?_
  have hmn : own_min xs.length.toInt32 k = k := by
    unfold own_min
    have e : xs.length.toInt32.toInt = (xs.length : Int) := len32 (by omega)
    by_cases c : k.toInt < xs.length.toInt32.toInt
    · rw [if_pos c]
    · rw [if_neg c]; exact iinj (by omega)
  refine go_static (pc' := 27) (Wd := 4) (y' := ⟨"java/lang/Math", "min", "(II)I"⟩) (argsL := [(.int xs.length.toInt32), (.int k)]) (rest := [(.int 0), (.ref u), (.int 0), (.ref b)]) K (hw _ (List.mem_of_getElem? (i := 44) rfl)) (hw _ (List.mem_of_getElem? (i := 45) rfl)) (hw _ (List.mem_of_getElem? (i := 46) rfl)) (hw _ (List.mem_of_getElem? (i := 47) rfl)) d6_24 (ct_min l Z h0 a0 hw _ xs.length.toInt32 k) (lenOf pd__II_I rfl) rfl rfl (by decide) rfl (by decide) (by decide) (by decide) (by decide) rfl ?_
  rintro _ ds' ⟨rfl, hds⟩
  rw [hds]
  rw [hmn]
  show Go W Q (ds ++ [(u, ba (List.replicate m 0))]) 1 7 27 #[.val (.ref b), .val (.int 0), .val (.int k), .val (.int k), .val (.ref u)] [(.int k), (.int 0), (.ref u), (.int 0), (.ref b)]
  refine go_acopy (pc' := 30) (Wd := 0) (i := i) (j := ds.length) (sp := 0) (dp := 0) (m := m) (xs := xs) (ys := (List.replicate m 0)) (ds' := ds ++ [(u, ba (xs.take m))]) K (hw _ (List.mem_of_getElem? (i := 48) rfl)) (hw _ (List.mem_of_getElem? (i := 51) rfl)) (hw _ (List.mem_of_getElem? (i := 49) rfl)) (hw _ (List.mem_of_getElem? (i := 50) rfl)) (at_left ha) at_last (by omega) (by rw [List.length_replicate]; omega) hfit (own_rep m) rfl rfl hk (by omega) (by rw [List.length_replicate]; omega) d6_27 rfl rfl (by decide) (by decide) rfl (by rw [set_last, own_cpy xs m hmx]) ?_
  refine go_aload (pc' := 32) K d6_30 rfl rfl rfl ?_
  exact go_aret K rfl d6_32 (by decide) (by decide) (by subst hQ; exact ⟨u, _, rfl, rfl⟩)
set_option maxRecDepth 65536 in
set_option maxHeartbeats 40000000 in
theorem ct_cr (l : Launch) (Z : State) (h0 : Heap) (a0 : Array Value) (hw : ∀ d ∈ tables_1, d.before a0 Z = true) (ds : Hp) (i b m : Nat) (xs : List Int32) (k : Int32) (ha : ds[i]? = some (b, ba xs)) (hl7 : xs.length ≤ 7) (hfit : ∀ x ∈ xs, fits .byte (.int x) = true) (hk : k.toInt = (m : Int)) (hmx : m ≤ xs.length) :
    Ct l Z h0 (⟨"java/util/Arrays", "copyOfRange", "([BII)[B"⟩ : MethodName) jdk_65_method_132_code 3 (some (.array .byte)) [] ({ frames := 2, cells := 1, slots := 7, locals := 66 } : Room) #[(.ref b), (.int 0), (.int k)] ds (fun v ds' => ∃ (u : Nat) (d : D), v = some (.ref u) ∧ ds' = ds ++ [(u, d)]) := by
  refine Ct.of_go (Ls := #[.val (.ref b), .val (.int 0), .val (.int k)]) pf_5 (fun m => by first | (simp [entryFrame, mkF, argsToLocals, Value.category, maxLocals]; done) | rfl) (fun W K => ?_)
  generalize hQ : (fun v ds' => ∃ (u : Nat) (d : D), v = some (.ref u) ∧ ds' = ds ++ [(u, d)] : Option Value → Hp → Prop) = Q
  refine go_iloadN (pc' := 1) K d5_0 rfl rfl ?_
  refine go_if_ne_f (pc' := 4) K d5_1 (by decide) rfl ?_
  refine go_iloadN (pc' := 5) K d5_4 rfl rfl ?_
  refine go_aloadN (pc' := 6) K d5_5 rfl rfl rfl ?_
  refine go_alen (pc' := 7) (i := i) (z := xs.length.toInt32) K ha d5_6 (by rw [List.length_map]) rfl ?_
  refine go_ic_eq (pt := 17) (pc' := 10) K d5_7 (by decide) (by decide) rfl (fun (hkl : k = xs.length.toInt32) => ?_) (fun (hkl : k ≠ xs.length.toInt32) => ?_)
  ·
    refine go_aloadN (pc' := 18) K d5_17 rfl rfl rfl ?_
    refine go_clone (pc' := 21) (Wd := 0) (i := i) (cap := 7) (ad := "[B") K (hw _ (List.mem_of_getElem? (i := 29) rfl)) (hw _ (List.mem_of_getElem? (i := 30) rfl)) (hw _ (List.mem_of_getElem? (i := 34) rfl)) (hw _ (List.mem_of_getElem? (i := 32) rfl)) (hw _ (List.mem_of_getElem? (i := 33) rfl)) (hw _ (List.mem_of_getElem? (i := 35) rfl)) (by decide) ha (fun v hv => by obtain ⟨x, hx, rfl⟩ := List.mem_map.mp hv; exact hfit x hx) d5_18 rfl rfl (by decide) (by decide) (by rw [List.length_map]; exact hl7) (by decide) (by decide) rfl (fun u hgu hlu => ?_)
    show Go W Q (ds ++ [(u, ba xs)]) 1 7 21 #[.val (.ref b), .val (.int 0), .val (.int k)] [(.ref u)]
    refine go_castA (pc' := 24) (i := ds.length) (ad := "[B") K (hw _ (List.mem_of_getElem? (i := 36) rfl)) (hw _ (List.mem_of_getElem? (i := 37) rfl)) (by decide) at_last d5_21 rfl ?_
    exact go_aret K rfl d5_24 (by decide) (by decide) (by subst hQ; exact ⟨u, _, rfl, rfl⟩)
  ·
    refine go_aloadN (pc' := 11) K d5_10 rfl rfl rfl ?_
    refine go_iloadN (pc' := 12) K d5_11 rfl rfl ?_
    refine go_iloadN (pc' := 13) K d5_12 rfl rfl ?_
    refine go_static (pc' := 16) (Wd := 0) (y' := ⟨"java/util/Arrays", "copyOfRangeByte", "([BII)[B"⟩) (argsL := [(.ref b), (.int 0), (.int k)]) (rest := []) K (hw _ (List.mem_of_getElem? (i := 38) rfl)) (hw _ (List.mem_of_getElem? (i := 39) rfl)) (hw _ (List.mem_of_getElem? (i := 27) rfl)) (hw _ (List.mem_of_getElem? (i := 40) rfl)) d5_13 (ct_crb l Z h0 a0 hw ds i b m xs k ha hl7 hfit hk hmx) (lenOf pd___BII__B rfl) rfl rfl (by decide) rfl (by decide) (by decide) (by decide) (by decide) rfl ?_
    rintro _ ds' ⟨u, d, rfl, hds⟩
    rw [hds]
    show Go W Q (ds ++ [(u, d)]) 1 7 16 #[.val (.ref b), .val (.int 0), .val (.int k)] [(.ref u)]
    exact go_aret K rfl d5_16 (by decide) (by decide) (by subst hQ; exact ⟨u, _, rfl, rfl⟩)
set_option maxRecDepth 65536 in
set_option maxHeartbeats 40000000 in
theorem ct_rbs (l : Launch) (Z : State) (h0 : Heap) (a0 : Array Value) (hw : ∀ d ∈ tables_1, d.before a0 Z = true) (dt : Hp) (b a m : Nat) (xs : List Int32) (k : Int32) (hl7 : xs.length ≤ 7) (hfit : ∀ x ∈ xs, fits .byte (.int x) = true) (hk : k.toInt = (m : Int)) (hmx : m ≤ xs.length) :
    Ct l Z h0 (⟨"com/example/hazusu/hazusu/StateBytes$Reader", "readBytes", "(J)[B"⟩ : MethodName) prog_29_method_3_code 4 (some (.array .byte)) [] ({ frames := 3, cells := 1, slots := 7, locals := 82 } : Room) #[(.ref a), (.long k.toInt64)] ((b, ba xs) :: (a, .inr ("com/example/hazusu/hazusu/StateBytes$Reader", [(("com/example/hazusu/hazusu/StateBytes$Reader", "bytes", "[B"), .ref b), (("com/example/hazusu/hazusu/StateBytes$Reader", "at", "I"), .int 0)])) :: dt) (fun v ds' => ∃ (u : Nat) (dt' : Hp), v = some (.ref u) ∧ ds' = (b, ba xs) :: (a, .inr ("com/example/hazusu/hazusu/StateBytes$Reader", [(("com/example/hazusu/hazusu/StateBytes$Reader", "bytes", "[B"), .ref b), (("com/example/hazusu/hazusu/StateBytes$Reader", "at", "I"), .int k)])) :: dt') := by
  refine Ct.of_go (Ls := #[.val (.ref a), .val (.long k.toInt64), .second, .unset]) pf_4 (fun m => by first | (simp [entryFrame, mkF, argsToLocals, Value.category, maxLocals]; done) | rfl) (fun W K => ?_)
  generalize hQ : (fun v ds' => ∃ (u : Nat) (dt' : Hp), v = some (.ref u) ∧ ds' = (b, ba xs) :: (a, .inr ("com/example/hazusu/hazusu/StateBytes$Reader", [(("com/example/hazusu/hazusu/StateBytes$Reader", "bytes", "[B"), .ref b), (("com/example/hazusu/hazusu/StateBytes$Reader", "at", "I"), .int k)])) :: dt' : Option Value → Hp → Prop) = Q
  refine go_lloadN (pc' := 1) K d4_0 rfl rfl ?_
  refine go_lconst (pc' := 2) (v := 0) K d4_1 rfl rfl ?_
  refine go_ll_lt_f (pc' := 6) K d4_2 rfl d4_3 (by rw [Int32.toInt_toInt64]; show (0 : Int) ≤ _; omega) rfl ?_
  refine go_lloadN (pc' := 7) K d4_6 rfl rfl ?_
  refine go_aloadN (pc' := 8) K d4_7 rfl rfl rfl ?_
  refine go_getfield (pc' := 11) (i := 1) (j := 0) K (hw _ (List.mem_of_getElem? (i := 11) rfl)) rfl rfl d4_8 rfl ?_
  refine go_alen (pc' := 12) (i := 0) (z := xs.length.toInt32) K rfl d4_11 (by rw [List.length_map]) rfl ?_
  refine go_aloadN (pc' := 13) K d4_12 rfl rfl rfl ?_
  refine go_getfield (pc' := 16) (i := 1) (j := 1) K (hw _ (List.mem_of_getElem? (i := 18) rfl)) rfl rfl d4_13 rfl ?_
  refine go_isub (pc' := 17) K d4_16 rfl ?_
  refine go_i2l (pc' := 18) K d4_17 rfl ?_
  refine go_ll_le_t (pc' := 36) K d4_18 rfl d4_19 (by rw [Int32.toInt_toInt64, Int32.toInt_toInt64, Int32.sub_zero, len32 (by omega)]; omega) (by decide) (by decide) ?_
  refine go_aloadN (pc' := 37) K d4_36 rfl rfl rfl ?_
  refine go_getfield (pc' := 40) (i := 1) (j := 0) K (hw _ (List.mem_of_getElem? (i := 11) rfl)) rfl rfl d4_37 rfl ?_
  refine go_aloadN (pc' := 41) K d4_40 rfl rfl rfl ?_
  refine go_getfield (pc' := 44) (i := 1) (j := 1) K (hw _ (List.mem_of_getElem? (i := 18) rfl)) rfl rfl d4_41 rfl ?_
  refine go_aloadN (pc' := 45) K d4_44 rfl rfl rfl ?_
  refine go_getfield (pc' := 48) (i := 1) (j := 1) K (hw _ (List.mem_of_getElem? (i := 18) rfl)) rfl rfl d4_45 rfl ?_
  refine go_lloadN (pc' := 49) K d4_48 rfl rfl ?_
  refine go_l2i (pc' := 50) K d4_49 rfl ?_
  refine go_iadd (pc' := 51) K d4_50 rfl ?_
  rw [show (0 + k.toInt64.toInt32 : Int32) = k from by rw [Int32.toInt32_toInt64, Int32.zero_add]]
  refine go_static (pc' := 54) (Wd := 0) (y' := ⟨"java/util/Arrays", "copyOfRange", "([BII)[B"⟩) (argsL := [(.ref b), (.int 0), (.int k)]) (rest := []) K (hw _ (List.mem_of_getElem? (i := 25) rfl)) (hw _ (List.mem_of_getElem? (i := 26) rfl)) (hw _ (List.mem_of_getElem? (i := 27) rfl)) (hw _ (List.mem_of_getElem? (i := 28) rfl)) d4_51 (ct_cr l Z h0 a0 hw _ 0 b m xs k rfl hl7 hfit hk hmx) (lenOf pd___BII__B rfl) rfl rfl (by decide) rfl (by decide) (by decide) (by decide) (by decide) rfl ?_
  rintro _ ds' ⟨u, d, rfl, hds⟩
  rw [hds]
  show Go W Q ((b, ba xs) :: (a, .inr ("com/example/hazusu/hazusu/StateBytes$Reader", [(("com/example/hazusu/hazusu/StateBytes$Reader", "bytes", "[B"), .ref b), (("com/example/hazusu/hazusu/StateBytes$Reader", "at", "I"), .int 0)])) :: (dt ++ [(u, d)])) 1 7 54 #[.val (.ref a), .val (.long k.toInt64), .second, .unset] [(.ref u)]
  refine go_astoreN (pc' := 55) (Ls' := #[.val (.ref a), .val (.long k.toInt64), .second, .val (.ref u)]) K d4_54 rfl rfl rfl ?_
  refine go_aloadN (pc' := 56) K d4_55 rfl rfl rfl ?_
  refine go_dup (pc' := 57) K d4_56 rfl rfl ?_
  refine go_getfield (pc' := 60) (i := 1) (j := 1) K (hw _ (List.mem_of_getElem? (i := 18) rfl)) rfl rfl d4_57 rfl ?_
  refine go_lloadN (pc' := 61) K d4_60 rfl rfl ?_
  refine go_l2i (pc' := 62) K d4_61 rfl ?_
  refine go_iadd (pc' := 63) K d4_62 rfl ?_
  rw [show (0 + k.toInt64.toInt32 : Int32) = k from by rw [Int32.toInt32_toInt64, Int32.zero_add]]
  refine go_putfield (pc' := 66) (i := 1) (j := 1) (ty := .int) (ds' := (b, ba xs) :: (a, .inr ("com/example/hazusu/hazusu/StateBytes$Reader", [(("com/example/hazusu/hazusu/StateBytes$Reader", "bytes", "[B"), .ref b), (("com/example/hazusu/hazusu/StateBytes$Reader", "at", "I"), .int k)])) :: (dt ++ [(u, d)])) (KS := [("com/example/hazusu/hazusu/StateBytes$Reader", "bytes", "[B"), ("com/example/hazusu/hazusu/StateBytes$Reader", "at", "I")]) K (hw _ (List.mem_of_getElem? (i := 18) rfl)) (Or.inl (hw _ (List.mem_of_getElem? (i := 19) rfl))) (hw _ (List.mem_of_getElem? (i := 3) rfl)) rfl rfl rfl (al_StateBytes_Reader Z a0 hw) (by decide) (by decide) rfl rfl d4_63 rfl rfl ?_
  refine go_aloadN (pc' := 67) K d4_66 rfl rfl rfl ?_
  exact go_aret K rfl d4_67 (by decide) (by decide) (by subst hQ; exact ⟨u, _, rfl, rfl⟩)
theorem own_m7 (x : Int32) : 0 ≤ (x &&& 7).toInt ∧ (x &&& 7).toInt < 8 := by
  have e : (x &&& 7).toInt = x.toInt % 2 ^ 3 := Jvm.Kit.i32_mask x 7 (k := 3) (by decide) (by decide)
  omega
theorem own_lt8 {x : Int32} (h0 : 0 ≤ x.toInt) (h1 : x.toInt < 8) : x = 0 ∨ x = 1 ∨ x = 2 ∨ x = 3 ∨ x = 4 ∨ x = 5 ∨ x = 6 ∨ x = 7 := by
  by_cases c : x.toInt < 4
  · rcases ilt4 h0 c with e | e | e | e <;> simp [e]
  · have : x.toInt = 4 ∨ x.toInt = 5 ∨ x.toInt = 6 ∨ x.toInt = 7 := by omega
    rcases this with e | e | e | e
    · have : x = 4 := iinj e
      simp [this]
    · have : x = 5 := iinj e
      simp [this]
    · have : x = 6 := iinj e
      simp [this]
    · have : x = 7 := iinj e
      simp [this]
theorem own_k (x n : Int32) (h : 0 ≤ n.toInt ∧ n.toInt < 8) : n + 1 ≠ 0 ∧ 0 ≤ ((x &&& 2147483647) % (n + 1)).toInt ∧ ((x &&& 2147483647) % (n + 1)).toInt ≤ n.toInt := by
  have e : (x &&& 2147483647).toInt = x.toInt % 2 ^ 31 := Jvm.Kit.i32_mask x 2147483647 (k := 31) (by decide) (by decide)
  have q1 : (1 : Int32).toInt = 1 := rfl
  have e1 : (n + 1).toInt = n.toInt + 1 := by rw [iadd_eq (by rw [q1]; omega) (by rw [q1]; omega), q1]
  have e2 : ((x &&& 2147483647) % (n + 1)).toInt = (x &&& 2147483647).toInt % (n + 1).toInt := Jvm.Kit.i32_rem_nonneg (by rw [e]; exact Int.emod_nonneg _ (by decide))
  have h1 : 0 ≤ (x &&& 2147483647).toInt % (n + 1).toInt := Int.emod_nonneg _ (by omega)
  have h2 : (x &&& 2147483647).toInt % (n + 1).toInt < (n + 1).toInt := Int.emod_lt_of_pos _ (by omega)
  exact ⟨fun z => by rw [z] at e1; have : (0 : Int32).toInt = 0 := rfl; omega, by omega, by omega⟩
theorem own_fb (x : Int32) : fits .byte (.int (nar .byte x)) = true := fits_nar_byte x
set_option maxRecDepth 65536 in
set_option maxHeartbeats 40000000 in
theorem law_ct (l : Launch) (Z : State) (h0 : Heap) (a0 : Array Value) (hw : ∀ d ∈ tables_1, d.before a0 Z = true) (p0 p1 : Int32) (p2 : Int64) :
    Ct l Z h0 x code maxLocals ret tables_1 room_1 #[(.int p0), (.int p1), (.long p2)] [] (fun v _ => v = some (.int 1)) := by
  refine Ct.of_go (Ls := #[.val (.int p0), .val (.int p1), .val (.long p2), .second, .unset, .unset, .unset, .unset, .unset, .unset, .unset, .unset]) pf_0 (fun m => by first | (simp [entryFrame, mkF, argsToLocals, Value.category, maxLocals]; done) | rfl) (fun W K => ?_)
  generalize hQ : (fun v _ => v = some (.int 1) : Option Value → Hp → Prop) = Q
  refine go_iloadN (pc' := 1) K at_0 rfl rfl ?_
  refine go_bipush (pc' := 3) (v := 7) K at_1 (by decide) rfl ?_
  refine go_iand (pc' := 4) K at_3 rfl ?_
  generalize hn : (p0 &&& 7) = n
  refine go_istore (pc' := 6) (Ls' := #[.val (.int p0), .val (.int p1), .val (.long p2), .second, .val (.int n), .unset, .unset, .unset, .unset, .unset, .unset, .unset]) K at_4 rfl rfl ?_
  have hn8 := own_m7 p0
  rw [hn] at hn8
  obtain ⟨hnz, hk1, hk2⟩ := own_k p1 n hn8
  refine go_iloadN (pc' := 7) K at_6 rfl rfl ?_
  refine go_ldc (pc' := 9) (v := 2147483647) K at_7 (hw _ (List.mem_of_getElem? (i := 0) rfl)) rfl ?_
  refine go_iand (pc' := 10) K at_9 rfl ?_
  refine go_iload (pc' := 12) K at_10 rfl rfl ?_
  refine go_iconst (pc' := 13) (v := 1) K at_12 rfl rfl ?_
  refine go_iadd (pc' := 14) K at_13 rfl ?_
  refine go_irem (pc' := 15) K at_14 hnz rfl ?_
  generalize hk : ((p1 &&& 2147483647) % (n + 1)) = k
  refine go_istore (pc' := 17) (Ls' := #[.val (.int p0), .val (.int p1), .val (.long p2), .second, .val (.int n), .val (.int k), .unset, .unset, .unset, .unset, .unset, .unset]) K at_15 rfl rfl ?_
  rw [hk] at hk1 hk2
  have J133 : ∀ (b : Nat) (xs : List Int32), ((xs.length : Nat) : Int) = n.toInt → (∀ x ∈ xs, fits .byte (.int x) = true) → Go W Q [(b, ba xs)] 1 7 133 #[.val (.int p0), .val (.int p1), .val (.long p2), .second, .val (.int n), .val (.int k), .val (.ref b), .unset, .unset, .unset, .unset, .unset] [] := by
    intro b xs hxn hfit
    have hl7 : xs.length ≤ 7 := by omega
    have hl32 : xs.length.toInt32 = n := iinj (by rw [len32 (by omega)]; exact hxn)
    have kN : k.toInt = ((k.toInt.toNat : Nat) : Int) := by omega
    have q1 : (1 : Int32).toInt = 1 := rfl
    have k1N : (k + 1).toInt = k.toInt + 1 := by rw [iadd_eq (by rw [q1]; omega) (by rw [q1]; omega), q1]
    refine go_new (pc' := 136) (C := "com/example/hazusu/hazusu/StateBytes$Reader") (fs := [(("com/example/hazusu/hazusu/StateBytes$Reader", "bytes", "[B"), .null), (("com/example/hazusu/hazusu/StateBytes$Reader", "at", "I"), .int 0)]) (KS := [("com/example/hazusu/hazusu/StateBytes$Reader", "bytes", "[B"), ("com/example/hazusu/hazusu/StateBytes$Reader", "at", "I")]) K (hw _ (List.mem_of_getElem? (i := 2) rfl)) (hw _ (List.mem_of_getElem? (i := 3) rfl)) (hw _ (List.mem_of_getElem? (i := 4) rfl)) rfl (al_StateBytes_Reader Z a0 hw) (by decide +kernel) at_133 (by decide) (by decide) rfl (fun a hga hla => ?_)
    show Go W Q [(b, ba xs), (a, .inr ("com/example/hazusu/hazusu/StateBytes$Reader", [(("com/example/hazusu/hazusu/StateBytes$Reader", "bytes", "[B"), .null), (("com/example/hazusu/hazusu/StateBytes$Reader", "at", "I"), .int 0)]))] 2 9 136 #[.val (.int p0), .val (.int p1), .val (.long p2), .second, .val (.int n), .val (.int k), .val (.ref b), .unset, .unset, .unset, .unset, .unset] [(.ref a)]
    refine go_dup (pc' := 137) K at_136 rfl rfl ?_
    refine go_aload (pc' := 139) K at_137 rfl rfl rfl ?_
    refine go_special (pc' := 142) (Wd := 1) (y' := ⟨"com/example/hazusu/hazusu/StateBytes$Reader", "<init>", "([B)V"⟩) (b := a) (argsL := [(.ref b)]) (rest := [(.ref a)]) K rfl (hw _ (List.mem_of_getElem? (i := 5) rfl)) (hw _ (List.mem_of_getElem? (i := 6) rfl)) (hw _ (List.mem_of_getElem? (i := 4) rfl)) (hw _ (List.mem_of_getElem? (i := 7) rfl)) at_139 (ct_init l Z h0 a0 hw [] b a xs) (lenOf pd___B_V rfl) rfl rfl (by decide) rfl (by decide) (by decide) (by decide) (by decide) rfl ?_
    rintro _ ds' ⟨rfl, hds⟩
    rw [hds]
    show Go W Q [(b, ba xs), (a, .inr ("com/example/hazusu/hazusu/StateBytes$Reader", [(("com/example/hazusu/hazusu/StateBytes$Reader", "bytes", "[B"), .ref b), (("com/example/hazusu/hazusu/StateBytes$Reader", "at", "I"), .int 0)]))] 2 9 142 #[.val (.int p0), .val (.int p1), .val (.long p2), .second, .val (.int n), .val (.int k), .val (.ref b), .unset, .unset, .unset, .unset, .unset] [(.ref a)]
    refine go_astore (pc' := 144) (Ls' := #[.val (.int p0), .val (.int p1), .val (.long p2), .second, .val (.int n), .val (.int k), .val (.ref b), .val (.ref a), .unset, .unset, .unset, .unset]) K at_142 rfl rfl rfl ?_
    by_cases hn0 : n = 0
    ·
      refine go_aload (pc' := 146) K at_144 rfl rfl rfl ?_
      refine go_virtual (pc' := 149) (Wd := 0) (i := 1) (y' := ⟨"com/example/hazusu/hazusu/StateBytes$Reader", "atEnd", "()Z"⟩) (b := a) (argsL := []) (rest := []) K (hw _ (List.mem_of_getElem? (i := 13) rfl)) (hw _ (List.mem_of_getElem? (i := 14) rfl)) (hw _ (List.mem_of_getElem? (i := 16) rfl)) (hw _ (List.mem_of_getElem? (i := 15) rfl)) (hw _ (List.mem_of_getElem? (i := 4) rfl)) (hw _ (List.mem_of_getElem? (i := 17) rfl)) rfl at_146 (ct_end l Z h0 a0 hw [] b a xs.length xs 0 1 rfl (by rw [hl32]; exact Or.inl ⟨hn0.symm, rfl⟩)) (lenOf pd___Z rfl) rfl rfl (by decide) rfl (by decide) (by decide) (by decide) (by decide) rfl ?_
      rintro _ ds' ⟨rfl, hds⟩
      rw [hds]
      show Go W Q [(b, ba xs), (a, .inr ("com/example/hazusu/hazusu/StateBytes$Reader", [(("com/example/hazusu/hazusu/StateBytes$Reader", "bytes", "[B"), .ref b), (("com/example/hazusu/hazusu/StateBytes$Reader", "at", "I"), .int 0)]))] 2 9 149 #[.val (.int p0), .val (.int p1), .val (.long p2), .second, .val (.int n), .val (.int k), .val (.ref b), .val (.ref a), .unset, .unset, .unset, .unset] [(.int 1)]
      refine go_istore (pc' := 151) (Ls' := #[.val (.int p0), .val (.int p1), .val (.long p2), .second, .val (.int n), .val (.int k), .val (.ref b), .val (.ref a), .val (.int 1), .unset, .unset, .unset]) K at_149 rfl rfl ?_
      refine go_iload (pc' := 153) K at_151 rfl rfl ?_
      refine go_iload (pc' := 155) K at_153 rfl rfl ?_
      refine go_if_ne_f (pc' := 158) K at_155 hn0 rfl ?_
      refine go_iconst (pc' := 159) (v := 1) K at_158 rfl rfl ?_
      refine go_goto (pc' := 163) K at_159 (by decide) (by decide) ?_
      refine go_ic_eq_t (pc' := 168) K at_163 (by decide) (by decide) (by decide) ?_
      refine go_aload (pc' := 170) K at_168 rfl rfl rfl ?_
      refine go_iload (pc' := 172) K at_170 rfl rfl ?_
      refine go_i2l (pc' := 173) K at_172 rfl ?_
      refine go_virtual (pc' := 176) (Wd := 0) (i := 1) (y' := ⟨"com/example/hazusu/hazusu/StateBytes$Reader", "readBytes", "(J)[B"⟩) (b := a) (argsL := [(.long k.toInt64)]) (rest := []) K (hw _ (List.mem_of_getElem? (i := 20) rfl)) (hw _ (List.mem_of_getElem? (i := 21) rfl)) (hw _ (List.mem_of_getElem? (i := 23) rfl)) (hw _ (List.mem_of_getElem? (i := 22) rfl)) (hw _ (List.mem_of_getElem? (i := 4) rfl)) (hw _ (List.mem_of_getElem? (i := 24) rfl)) rfl at_173 (ct_rbs l Z h0 a0 hw [] b a k.toInt.toNat xs k hl7 hfit kN (by omega)) (lenOf pd__J__B rfl) rfl rfl (by decide) rfl (by decide) (by decide) (by decide) (by decide) rfl ?_
      rintro _ ds' ⟨u, dt', rfl, hds⟩
      rw [hds]
      show Go W Q ((b, ba xs) :: (a, .inr ("com/example/hazusu/hazusu/StateBytes$Reader", [(("com/example/hazusu/hazusu/StateBytes$Reader", "bytes", "[B"), .ref b), (("com/example/hazusu/hazusu/StateBytes$Reader", "at", "I"), .int k)])) :: dt') 3 16 176 #[.val (.int p0), .val (.int p1), .val (.long p2), .second, .val (.int n), .val (.int k), .val (.ref b), .val (.ref a), .val (.int 1), .unset, .unset, .unset] [(.ref u)]
      refine go_pop (pc' := 177) K at_176 rfl rfl ?_
      by_cases hkn : k = n
      ·
        refine go_aload (pc' := 179) K at_177 rfl rfl rfl ?_
        refine go_virtual (pc' := 182) (Wd := 0) (i := 1) (y' := ⟨"com/example/hazusu/hazusu/StateBytes$Reader", "atEnd", "()Z"⟩) (b := a) (argsL := []) (rest := []) K (hw _ (List.mem_of_getElem? (i := 13) rfl)) (hw _ (List.mem_of_getElem? (i := 14) rfl)) (hw _ (List.mem_of_getElem? (i := 16) rfl)) (hw _ (List.mem_of_getElem? (i := 15) rfl)) (hw _ (List.mem_of_getElem? (i := 4) rfl)) (hw _ (List.mem_of_getElem? (i := 17) rfl)) rfl at_179 (ct_end l Z h0 a0 hw dt' b a xs.length xs k 1 rfl (by rw [hl32]; exact Or.inl ⟨hkn, rfl⟩)) (lenOf pd___Z rfl) rfl rfl (by decide) rfl (by decide) (by decide) (by decide) (by decide) rfl ?_
        rintro _ ds' ⟨rfl, hds⟩
        rw [hds]
        show Go W Q ((b, ba xs) :: (a, .inr ("com/example/hazusu/hazusu/StateBytes$Reader", [(("com/example/hazusu/hazusu/StateBytes$Reader", "bytes", "[B"), .ref b), (("com/example/hazusu/hazusu/StateBytes$Reader", "at", "I"), .int k)])) :: dt') 3 16 182 #[.val (.int p0), .val (.int p1), .val (.long p2), .second, .val (.int n), .val (.int k), .val (.ref b), .val (.ref a), .val (.int 1), .unset, .unset, .unset] [(.int 1)]
        refine go_istore (pc' := 184) (Ls' := #[.val (.int p0), .val (.int p1), .val (.long p2), .second, .val (.int n), .val (.int k), .val (.ref b), .val (.ref a), .val (.int 1), .val (.int 1), .unset, .unset]) K at_182 rfl rfl ?_
        refine go_iload (pc' := 186) K at_184 rfl rfl ?_
        refine go_iload (pc' := 188) K at_186 rfl rfl ?_
        refine go_iload (pc' := 190) K at_188 rfl rfl ?_
        refine go_ic_ne_f (pc' := 193) K at_190 hkn rfl ?_
        refine go_iconst (pc' := 194) (v := 1) K at_193 rfl rfl ?_
        refine go_goto (pc' := 198) K at_194 (by decide) (by decide) ?_
        refine go_ic_eq_t (pc' := 203) K at_198 (by decide) (by decide) (by decide) ?_
        refine go_iload (pc' := 205) K at_203 rfl rfl ?_
        refine go_if_ne_t (pc' := 259) K at_205 (by decide) (by decide) (by decide) ?_
        refine go_iconst (pc' := 260) (v := 1) K at_259 rfl rfl ?_
        exact go_zret K at_260 (by decide) (by decide) (Or.inr rfl) (by subst hQ; rfl)
      ·
        exact absurd (iinj (by rw [hn0] at hk2; rw [hn0]; have z0 : (0 : Int32).toInt = 0 := rfl; omega)) hkn
      
    ·
      refine go_aload (pc' := 146) K at_144 rfl rfl rfl ?_
      refine go_virtual (pc' := 149) (Wd := 0) (i := 1) (y' := ⟨"com/example/hazusu/hazusu/StateBytes$Reader", "atEnd", "()Z"⟩) (b := a) (argsL := []) (rest := []) K (hw _ (List.mem_of_getElem? (i := 13) rfl)) (hw _ (List.mem_of_getElem? (i := 14) rfl)) (hw _ (List.mem_of_getElem? (i := 16) rfl)) (hw _ (List.mem_of_getElem? (i := 15) rfl)) (hw _ (List.mem_of_getElem? (i := 4) rfl)) (hw _ (List.mem_of_getElem? (i := 17) rfl)) rfl at_146 (ct_end l Z h0 a0 hw [] b a xs.length xs 0 0 rfl (by rw [hl32]; exact Or.inr ⟨fun q => hn0 q.symm, rfl⟩)) (lenOf pd___Z rfl) rfl rfl (by decide) rfl (by decide) (by decide) (by decide) (by decide) rfl ?_
      rintro _ ds' ⟨rfl, hds⟩
      rw [hds]
      show Go W Q [(b, ba xs), (a, .inr ("com/example/hazusu/hazusu/StateBytes$Reader", [(("com/example/hazusu/hazusu/StateBytes$Reader", "bytes", "[B"), .ref b), (("com/example/hazusu/hazusu/StateBytes$Reader", "at", "I"), .int 0)]))] 2 9 149 #[.val (.int p0), .val (.int p1), .val (.long p2), .second, .val (.int n), .val (.int k), .val (.ref b), .val (.ref a), .unset, .unset, .unset, .unset] [(.int 0)]
      refine go_istore (pc' := 151) (Ls' := #[.val (.int p0), .val (.int p1), .val (.long p2), .second, .val (.int n), .val (.int k), .val (.ref b), .val (.ref a), .val (.int 0), .unset, .unset, .unset]) K at_149 rfl rfl ?_
      refine go_iload (pc' := 153) K at_151 rfl rfl ?_
      refine go_iload (pc' := 155) K at_153 rfl rfl ?_
      refine go_if_ne_t (pc' := 162) K at_155 hn0 (by decide) (by decide) ?_
      refine go_iconst (pc' := 163) (v := 0) K at_162 rfl rfl ?_
      refine go_ic_eq_t (pc' := 168) K at_163 (by decide) (by decide) (by decide) ?_
      refine go_aload (pc' := 170) K at_168 rfl rfl rfl ?_
      refine go_iload (pc' := 172) K at_170 rfl rfl ?_
      refine go_i2l (pc' := 173) K at_172 rfl ?_
      refine go_virtual (pc' := 176) (Wd := 0) (i := 1) (y' := ⟨"com/example/hazusu/hazusu/StateBytes$Reader", "readBytes", "(J)[B"⟩) (b := a) (argsL := [(.long k.toInt64)]) (rest := []) K (hw _ (List.mem_of_getElem? (i := 20) rfl)) (hw _ (List.mem_of_getElem? (i := 21) rfl)) (hw _ (List.mem_of_getElem? (i := 23) rfl)) (hw _ (List.mem_of_getElem? (i := 22) rfl)) (hw _ (List.mem_of_getElem? (i := 4) rfl)) (hw _ (List.mem_of_getElem? (i := 24) rfl)) rfl at_173 (ct_rbs l Z h0 a0 hw [] b a k.toInt.toNat xs k hl7 hfit kN (by omega)) (lenOf pd__J__B rfl) rfl rfl (by decide) rfl (by decide) (by decide) (by decide) (by decide) rfl ?_
      rintro _ ds' ⟨u, dt', rfl, hds⟩
      rw [hds]
      show Go W Q ((b, ba xs) :: (a, .inr ("com/example/hazusu/hazusu/StateBytes$Reader", [(("com/example/hazusu/hazusu/StateBytes$Reader", "bytes", "[B"), .ref b), (("com/example/hazusu/hazusu/StateBytes$Reader", "at", "I"), .int k)])) :: dt') 3 16 176 #[.val (.int p0), .val (.int p1), .val (.long p2), .second, .val (.int n), .val (.int k), .val (.ref b), .val (.ref a), .val (.int 0), .unset, .unset, .unset] [(.ref u)]
      refine go_pop (pc' := 177) K at_176 rfl rfl ?_
      by_cases hkn : k = n
      ·
        refine go_aload (pc' := 179) K at_177 rfl rfl rfl ?_
        refine go_virtual (pc' := 182) (Wd := 0) (i := 1) (y' := ⟨"com/example/hazusu/hazusu/StateBytes$Reader", "atEnd", "()Z"⟩) (b := a) (argsL := []) (rest := []) K (hw _ (List.mem_of_getElem? (i := 13) rfl)) (hw _ (List.mem_of_getElem? (i := 14) rfl)) (hw _ (List.mem_of_getElem? (i := 16) rfl)) (hw _ (List.mem_of_getElem? (i := 15) rfl)) (hw _ (List.mem_of_getElem? (i := 4) rfl)) (hw _ (List.mem_of_getElem? (i := 17) rfl)) rfl at_179 (ct_end l Z h0 a0 hw dt' b a xs.length xs k 1 rfl (by rw [hl32]; exact Or.inl ⟨hkn, rfl⟩)) (lenOf pd___Z rfl) rfl rfl (by decide) rfl (by decide) (by decide) (by decide) (by decide) rfl ?_
        rintro _ ds' ⟨rfl, hds⟩
        rw [hds]
        show Go W Q ((b, ba xs) :: (a, .inr ("com/example/hazusu/hazusu/StateBytes$Reader", [(("com/example/hazusu/hazusu/StateBytes$Reader", "bytes", "[B"), .ref b), (("com/example/hazusu/hazusu/StateBytes$Reader", "at", "I"), .int k)])) :: dt') 3 16 182 #[.val (.int p0), .val (.int p1), .val (.long p2), .second, .val (.int n), .val (.int k), .val (.ref b), .val (.ref a), .val (.int 0), .unset, .unset, .unset] [(.int 1)]
        refine go_istore (pc' := 184) (Ls' := #[.val (.int p0), .val (.int p1), .val (.long p2), .second, .val (.int n), .val (.int k), .val (.ref b), .val (.ref a), .val (.int 0), .val (.int 1), .unset, .unset]) K at_182 rfl rfl ?_
        refine go_iload (pc' := 186) K at_184 rfl rfl ?_
        refine go_iload (pc' := 188) K at_186 rfl rfl ?_
        refine go_iload (pc' := 190) K at_188 rfl rfl ?_
        refine go_ic_ne_f (pc' := 193) K at_190 hkn rfl ?_
        refine go_iconst (pc' := 194) (v := 1) K at_193 rfl rfl ?_
        refine go_goto (pc' := 198) K at_194 (by decide) (by decide) ?_
        refine go_ic_eq_t (pc' := 203) K at_198 (by decide) (by decide) (by decide) ?_
        refine go_iload (pc' := 205) K at_203 rfl rfl ?_
        refine go_if_ne_t (pc' := 259) K at_205 (by decide) (by decide) (by decide) ?_
        refine go_iconst (pc' := 260) (v := 1) K at_259 rfl rfl ?_
        exact go_zret K at_260 (by decide) (by decide) (Or.inr rfl) (by subst hQ; rfl)
      ·
        refine go_aload (pc' := 179) K at_177 rfl rfl rfl ?_
        refine go_virtual (pc' := 182) (Wd := 0) (i := 1) (y' := ⟨"com/example/hazusu/hazusu/StateBytes$Reader", "atEnd", "()Z"⟩) (b := a) (argsL := []) (rest := []) K (hw _ (List.mem_of_getElem? (i := 13) rfl)) (hw _ (List.mem_of_getElem? (i := 14) rfl)) (hw _ (List.mem_of_getElem? (i := 16) rfl)) (hw _ (List.mem_of_getElem? (i := 15) rfl)) (hw _ (List.mem_of_getElem? (i := 4) rfl)) (hw _ (List.mem_of_getElem? (i := 17) rfl)) rfl at_179 (ct_end l Z h0 a0 hw dt' b a xs.length xs k 0 rfl (by rw [hl32]; exact Or.inr ⟨hkn, rfl⟩)) (lenOf pd___Z rfl) rfl rfl (by decide) rfl (by decide) (by decide) (by decide) (by decide) rfl ?_
        rintro _ ds' ⟨rfl, hds⟩
        rw [hds]
        show Go W Q ((b, ba xs) :: (a, .inr ("com/example/hazusu/hazusu/StateBytes$Reader", [(("com/example/hazusu/hazusu/StateBytes$Reader", "bytes", "[B"), .ref b), (("com/example/hazusu/hazusu/StateBytes$Reader", "at", "I"), .int k)])) :: dt') 3 16 182 #[.val (.int p0), .val (.int p1), .val (.long p2), .second, .val (.int n), .val (.int k), .val (.ref b), .val (.ref a), .val (.int 0), .unset, .unset, .unset] [(.int 0)]
        refine go_istore (pc' := 184) (Ls' := #[.val (.int p0), .val (.int p1), .val (.long p2), .second, .val (.int n), .val (.int k), .val (.ref b), .val (.ref a), .val (.int 0), .val (.int 0), .unset, .unset]) K at_182 rfl rfl ?_
        refine go_iload (pc' := 186) K at_184 rfl rfl ?_
        refine go_iload (pc' := 188) K at_186 rfl rfl ?_
        refine go_iload (pc' := 190) K at_188 rfl rfl ?_
        refine go_ic_ne_t (pc' := 197) K at_190 hkn (by decide) (by decide) ?_
        refine go_iconst (pc' := 198) (v := 0) K at_197 rfl rfl ?_
        refine go_ic_eq_t (pc' := 203) K at_198 (by decide) (by decide) (by decide) ?_
        refine go_iload (pc' := 205) K at_203 rfl rfl ?_
        refine go_if_ne_f (pc' := 208) K at_205 (by decide) rfl ?_
        have hklt : k.toInt.toNat < xs.length := by
          have : k.toInt ≠ n.toInt := fun q => hkn (iinj q)
          omega
        obtain ⟨x, hx⟩ : ∃ x, xs[k.toInt.toNat]? = some x := ⟨_, List.getElem?_eq_getElem hklt⟩
        refine go_aload (pc' := 210) K at_208 rfl rfl rfl ?_
        refine go_virtual (pc' := 213) (Wd := 0) (i := 1) (y' := ⟨"com/example/hazusu/hazusu/StateBytes$Reader", "readByte", "()I"⟩) (b := a) (argsL := []) (rest := []) K (hw _ (List.mem_of_getElem? (i := 52) rfl)) (hw _ (List.mem_of_getElem? (i := 53) rfl)) (hw _ (List.mem_of_getElem? (i := 55) rfl)) (hw _ (List.mem_of_getElem? (i := 54) rfl)) (hw _ (List.mem_of_getElem? (i := 4) rfl)) (hw _ (List.mem_of_getElem? (i := 56) rfl)) rfl at_210 (ct_rb l Z h0 a0 hw dt' b a xs.length k.toInt.toNat xs k x rfl (by rw [hl32]; exact hkn) kN hx) (lenOf pd___I rfl) rfl rfl (by decide) rfl (by decide) (by decide) (by decide) (by decide) rfl ?_
        rintro _ ds' ⟨rfl, hds⟩
        rw [hds]
        show Go W Q ((b, ba xs) :: (a, .inr ("com/example/hazusu/hazusu/StateBytes$Reader", [(("com/example/hazusu/hazusu/StateBytes$Reader", "bytes", "[B"), .ref b), (("com/example/hazusu/hazusu/StateBytes$Reader", "at", "I"), .int (k + 1))])) :: dt') 3 16 213 #[.val (.int p0), .val (.int p1), .val (.long p2), .second, .val (.int n), .val (.int k), .val (.ref b), .val (.ref a), .val (.int 0), .val (.int 0), .unset, .unset] [(.int (x &&& 255))]
        refine go_istore (pc' := 215) (Ls' := #[.val (.int p0), .val (.int p1), .val (.long p2), .second, .val (.int n), .val (.int k), .val (.ref b), .val (.ref a), .val (.int 0), .val (.int 0), .val (.int (x &&& 255)), .unset]) K at_213 rfl rfl ?_
        refine go_iload (pc' := 217) K at_215 rfl rfl ?_
        refine go_aload (pc' := 219) K at_217 rfl rfl rfl ?_
        refine go_iload (pc' := 221) K at_219 rfl rfl ?_
        refine go_baload (pc' := 222) (i := 0) (m := k.toInt.toNat) (x := x) K rfl at_221 kN hx rfl ?_
        refine go_sipush (pc' := 225) (v := 255) K at_222 (by decide) rfl ?_
        refine go_iand (pc' := 226) K at_225 rfl ?_
        refine go_ic_eq_t (pc' := 231) K at_226 rfl (by decide) (by decide) ?_
        by_cases hk1 : k + 1 = n
        ·
          refine go_aload (pc' := 233) K at_231 rfl rfl rfl ?_
          refine go_virtual (pc' := 236) (Wd := 0) (i := 1) (y' := ⟨"com/example/hazusu/hazusu/StateBytes$Reader", "atEnd", "()Z"⟩) (b := a) (argsL := []) (rest := []) K (hw _ (List.mem_of_getElem? (i := 13) rfl)) (hw _ (List.mem_of_getElem? (i := 14) rfl)) (hw _ (List.mem_of_getElem? (i := 16) rfl)) (hw _ (List.mem_of_getElem? (i := 15) rfl)) (hw _ (List.mem_of_getElem? (i := 4) rfl)) (hw _ (List.mem_of_getElem? (i := 17) rfl)) rfl at_233 (ct_end l Z h0 a0 hw dt' b a xs.length xs (k + 1) 1 rfl (by rw [hl32]; exact Or.inl ⟨hk1, rfl⟩)) (lenOf pd___Z rfl) rfl rfl (by decide) rfl (by decide) (by decide) (by decide) (by decide) rfl ?_
          rintro _ ds' ⟨rfl, hds⟩
          rw [hds]
          show Go W Q ((b, ba xs) :: (a, .inr ("com/example/hazusu/hazusu/StateBytes$Reader", [(("com/example/hazusu/hazusu/StateBytes$Reader", "bytes", "[B"), .ref b), (("com/example/hazusu/hazusu/StateBytes$Reader", "at", "I"), .int (k + 1))])) :: dt') 3 16 236 #[.val (.int p0), .val (.int p1), .val (.long p2), .second, .val (.int n), .val (.int k), .val (.ref b), .val (.ref a), .val (.int 0), .val (.int 0), .val (.int (x &&& 255)), .unset] [(.int 1)]
          refine go_istore (pc' := 238) (Ls' := #[.val (.int p0), .val (.int p1), .val (.long p2), .second, .val (.int n), .val (.int k), .val (.ref b), .val (.ref a), .val (.int 0), .val (.int 0), .val (.int (x &&& 255)), .val (.int 1)]) K at_236 rfl rfl ?_
          refine go_iload (pc' := 240) K at_238 rfl rfl ?_
          refine go_iload (pc' := 242) K at_240 rfl rfl ?_
          refine go_iconst (pc' := 243) (v := 1) K at_242 rfl rfl ?_
          refine go_iadd (pc' := 244) K at_243 rfl ?_
          refine go_iload (pc' := 246) K at_244 rfl rfl ?_
          refine go_ic_ne_f (pc' := 249) K at_246 hk1 rfl ?_
          refine go_iconst (pc' := 250) (v := 1) K at_249 rfl rfl ?_
          refine go_goto (pc' := 254) K at_250 (by decide) (by decide) ?_
          refine go_ic_eq_t (pc' := 259) K at_254 (by decide) (by decide) (by decide) ?_
          refine go_iconst (pc' := 260) (v := 1) K at_259 rfl rfl ?_
          exact go_zret K at_260 (by decide) (by decide) (Or.inr rfl) (by subst hQ; rfl)
        ·
          refine go_aload (pc' := 233) K at_231 rfl rfl rfl ?_
          refine go_virtual (pc' := 236) (Wd := 0) (i := 1) (y' := ⟨"com/example/hazusu/hazusu/StateBytes$Reader", "atEnd", "()Z"⟩) (b := a) (argsL := []) (rest := []) K (hw _ (List.mem_of_getElem? (i := 13) rfl)) (hw _ (List.mem_of_getElem? (i := 14) rfl)) (hw _ (List.mem_of_getElem? (i := 16) rfl)) (hw _ (List.mem_of_getElem? (i := 15) rfl)) (hw _ (List.mem_of_getElem? (i := 4) rfl)) (hw _ (List.mem_of_getElem? (i := 17) rfl)) rfl at_233 (ct_end l Z h0 a0 hw dt' b a xs.length xs (k + 1) 0 rfl (by rw [hl32]; exact Or.inr ⟨hk1, rfl⟩)) (lenOf pd___Z rfl) rfl rfl (by decide) rfl (by decide) (by decide) (by decide) (by decide) rfl ?_
          rintro _ ds' ⟨rfl, hds⟩
          rw [hds]
          show Go W Q ((b, ba xs) :: (a, .inr ("com/example/hazusu/hazusu/StateBytes$Reader", [(("com/example/hazusu/hazusu/StateBytes$Reader", "bytes", "[B"), .ref b), (("com/example/hazusu/hazusu/StateBytes$Reader", "at", "I"), .int (k + 1))])) :: dt') 3 16 236 #[.val (.int p0), .val (.int p1), .val (.long p2), .second, .val (.int n), .val (.int k), .val (.ref b), .val (.ref a), .val (.int 0), .val (.int 0), .val (.int (x &&& 255)), .unset] [(.int 0)]
          refine go_istore (pc' := 238) (Ls' := #[.val (.int p0), .val (.int p1), .val (.long p2), .second, .val (.int n), .val (.int k), .val (.ref b), .val (.ref a), .val (.int 0), .val (.int 0), .val (.int (x &&& 255)), .val (.int 0)]) K at_236 rfl rfl ?_
          refine go_iload (pc' := 240) K at_238 rfl rfl ?_
          refine go_iload (pc' := 242) K at_240 rfl rfl ?_
          refine go_iconst (pc' := 243) (v := 1) K at_242 rfl rfl ?_
          refine go_iadd (pc' := 244) K at_243 rfl ?_
          refine go_iload (pc' := 246) K at_244 rfl rfl ?_
          refine go_ic_ne_t (pc' := 253) K at_246 hk1 (by decide) (by decide) ?_
          refine go_iconst (pc' := 254) (v := 0) K at_253 rfl rfl ?_
          refine go_ic_eq_t (pc' := 259) K at_254 (by decide) (by decide) (by decide) ?_
          refine go_iconst (pc' := 260) (v := 1) K at_259 rfl rfl ?_
          exact go_zret K at_260 (by decide) (by decide) (Or.inr rfl) (by subst hQ; rfl)
        
      
    
  rcases own_lt8 hn8.1 hn8.2 with rfl | rfl | rfl | rfl | rfl | rfl | rfl | rfl
  ·
    refine go_iload (pc' := 19) K at_17 rfl rfl ?_
    refine go_newB (pc' := 21) (m := 0) (cap := 7) K (hw _ (List.mem_of_getElem? (i := 1) rfl)) at_19 (by decide) (by decide) (by decide) (by decide) (by decide) rfl (fun b hgb hlb => ?_)
    show Go W Q [(b, ba [])] 1 7 21 #[.val (.int p0), .val (.int p1), .val (.long p2), .second, .val (.int 0), .val (.int k), .unset, .unset, .unset, .unset, .unset, .unset] [(.ref b)]
    refine go_astore (pc' := 23) (Ls' := #[.val (.int p0), .val (.int p1), .val (.long p2), .second, .val (.int 0), .val (.int k), .val (.ref b), .unset, .unset, .unset, .unset, .unset]) K at_21 rfl rfl rfl ?_
    refine go_iload (pc' := 25) K at_23 rfl rfl ?_
    refine go_if_le_t (pc' := 35) K at_25 (by decide) (by decide) (by decide) ?_
    refine go_iload (pc' := 37) K at_35 rfl rfl ?_
    refine go_iconst (pc' := 38) (v := 1) K at_37 rfl rfl ?_
    refine go_ic_le_t (pc' := 51) K at_38 (by decide) (by decide) (by decide) ?_
    refine go_iload (pc' := 53) K at_51 rfl rfl ?_
    refine go_iconst (pc' := 54) (v := 2) K at_53 rfl rfl ?_
    refine go_ic_le_t (pc' := 67) K at_54 (by decide) (by decide) (by decide) ?_
    refine go_iload (pc' := 69) K at_67 rfl rfl ?_
    refine go_iconst (pc' := 70) (v := 3) K at_69 rfl rfl ?_
    refine go_ic_le_t (pc' := 83) K at_70 (by decide) (by decide) (by decide) ?_
    refine go_iload (pc' := 85) K at_83 rfl rfl ?_
    refine go_iconst (pc' := 86) (v := 4) K at_85 rfl rfl ?_
    refine go_ic_le_t (pc' := 99) K at_86 (by decide) (by decide) (by decide) ?_
    refine go_iload (pc' := 101) K at_99 rfl rfl ?_
    refine go_iconst (pc' := 102) (v := 5) K at_101 rfl rfl ?_
    refine go_ic_le_t (pc' := 115) K at_102 (by decide) (by decide) (by decide) ?_
    refine go_iload (pc' := 117) K at_115 rfl rfl ?_
    refine go_bipush (pc' := 119) (v := 6) K at_117 (by decide) rfl ?_
    refine go_ic_le_t (pc' := 133) K at_119 (by decide) (by decide) (by decide) ?_
    exact J133 b _ (by simp) (by intro x hx; cases hx)
  ·
    refine go_iload (pc' := 19) K at_17 rfl rfl ?_
    refine go_newB (pc' := 21) (m := 1) (cap := 7) K (hw _ (List.mem_of_getElem? (i := 1) rfl)) at_19 (by decide) (by decide) (by decide) (by decide) (by decide) rfl (fun b hgb hlb => ?_)
    show Go W Q [(b, ba [0])] 1 7 21 #[.val (.int p0), .val (.int p1), .val (.long p2), .second, .val (.int 1), .val (.int k), .unset, .unset, .unset, .unset, .unset, .unset] [(.ref b)]
    refine go_astore (pc' := 23) (Ls' := #[.val (.int p0), .val (.int p1), .val (.long p2), .second, .val (.int 1), .val (.int k), .val (.ref b), .unset, .unset, .unset, .unset, .unset]) K at_21 rfl rfl rfl ?_
    refine go_iload (pc' := 25) K at_23 rfl rfl ?_
    refine go_if_le_f (pc' := 28) K at_25 (by decide) rfl ?_
    refine go_aload (pc' := 30) K at_28 rfl rfl rfl ?_
    refine go_iconst (pc' := 31) (v := 0) K at_30 rfl rfl ?_
    refine go_lloadN (pc' := 32) K at_31 rfl rfl ?_
    refine go_l2i (pc' := 33) K at_32 rfl ?_
    refine go_i2b (pc' := 34) K at_33 rfl ?_
    refine go_bastore (pc' := 35) (i := 0) (m := 0) (ds' := [(b, ba [(nar .byte p2.toInt32.toInt8.toInt32)])]) K rfl at_34 (by decide) (by simp) rfl rfl ?_
    refine go_iload (pc' := 37) K at_35 rfl rfl ?_
    refine go_iconst (pc' := 38) (v := 1) K at_37 rfl rfl ?_
    refine go_ic_le_t (pc' := 51) K at_38 (by decide) (by decide) (by decide) ?_
    refine go_iload (pc' := 53) K at_51 rfl rfl ?_
    refine go_iconst (pc' := 54) (v := 2) K at_53 rfl rfl ?_
    refine go_ic_le_t (pc' := 67) K at_54 (by decide) (by decide) (by decide) ?_
    refine go_iload (pc' := 69) K at_67 rfl rfl ?_
    refine go_iconst (pc' := 70) (v := 3) K at_69 rfl rfl ?_
    refine go_ic_le_t (pc' := 83) K at_70 (by decide) (by decide) (by decide) ?_
    refine go_iload (pc' := 85) K at_83 rfl rfl ?_
    refine go_iconst (pc' := 86) (v := 4) K at_85 rfl rfl ?_
    refine go_ic_le_t (pc' := 99) K at_86 (by decide) (by decide) (by decide) ?_
    refine go_iload (pc' := 101) K at_99 rfl rfl ?_
    refine go_iconst (pc' := 102) (v := 5) K at_101 rfl rfl ?_
    refine go_ic_le_t (pc' := 115) K at_102 (by decide) (by decide) (by decide) ?_
    refine go_iload (pc' := 117) K at_115 rfl rfl ?_
    refine go_bipush (pc' := 119) (v := 6) K at_117 (by decide) rfl ?_
    refine go_ic_le_t (pc' := 133) K at_119 (by decide) (by decide) (by decide) ?_
    exact J133 b _ (by simp) (by intro x hx; simp only [List.mem_cons, List.not_mem_nil, or_false] at hx; rcases hx with rfl <;> exact own_fb _)
  ·
    refine go_iload (pc' := 19) K at_17 rfl rfl ?_
    refine go_newB (pc' := 21) (m := 2) (cap := 7) K (hw _ (List.mem_of_getElem? (i := 1) rfl)) at_19 (by decide) (by decide) (by decide) (by decide) (by decide) rfl (fun b hgb hlb => ?_)
    show Go W Q [(b, ba [0, 0])] 1 7 21 #[.val (.int p0), .val (.int p1), .val (.long p2), .second, .val (.int 2), .val (.int k), .unset, .unset, .unset, .unset, .unset, .unset] [(.ref b)]
    refine go_astore (pc' := 23) (Ls' := #[.val (.int p0), .val (.int p1), .val (.long p2), .second, .val (.int 2), .val (.int k), .val (.ref b), .unset, .unset, .unset, .unset, .unset]) K at_21 rfl rfl rfl ?_
    refine go_iload (pc' := 25) K at_23 rfl rfl ?_
    refine go_if_le_f (pc' := 28) K at_25 (by decide) rfl ?_
    refine go_aload (pc' := 30) K at_28 rfl rfl rfl ?_
    refine go_iconst (pc' := 31) (v := 0) K at_30 rfl rfl ?_
    refine go_lloadN (pc' := 32) K at_31 rfl rfl ?_
    refine go_l2i (pc' := 33) K at_32 rfl ?_
    refine go_i2b (pc' := 34) K at_33 rfl ?_
    refine go_bastore (pc' := 35) (i := 0) (m := 0) (ds' := [(b, ba [(nar .byte p2.toInt32.toInt8.toInt32), 0])]) K rfl at_34 (by decide) (by simp) rfl rfl ?_
    refine go_iload (pc' := 37) K at_35 rfl rfl ?_
    refine go_iconst (pc' := 38) (v := 1) K at_37 rfl rfl ?_
    refine go_ic_le_f (pc' := 41) K at_38 (by decide) rfl ?_
    refine go_aload (pc' := 43) K at_41 rfl rfl rfl ?_
    refine go_iconst (pc' := 44) (v := 1) K at_43 rfl rfl ?_
    refine go_lloadN (pc' := 45) K at_44 rfl rfl ?_
    refine go_bipush (pc' := 47) (v := 8) K at_45 (by decide) rfl ?_
    refine go_lushr (pc' := 48) K at_47 rfl ?_
    refine go_l2i (pc' := 49) K at_48 rfl ?_
    refine go_i2b (pc' := 50) K at_49 rfl ?_
    refine go_bastore (pc' := 51) (i := 0) (m := 1) (ds' := [(b, ba [(nar .byte p2.toInt32.toInt8.toInt32), (nar .byte (((XT.ushrL p2 8).toInt32).toInt8.toInt32))])]) K rfl at_50 (by decide) (by simp) rfl rfl ?_
    refine go_iload (pc' := 53) K at_51 rfl rfl ?_
    refine go_iconst (pc' := 54) (v := 2) K at_53 rfl rfl ?_
    refine go_ic_le_t (pc' := 67) K at_54 (by decide) (by decide) (by decide) ?_
    refine go_iload (pc' := 69) K at_67 rfl rfl ?_
    refine go_iconst (pc' := 70) (v := 3) K at_69 rfl rfl ?_
    refine go_ic_le_t (pc' := 83) K at_70 (by decide) (by decide) (by decide) ?_
    refine go_iload (pc' := 85) K at_83 rfl rfl ?_
    refine go_iconst (pc' := 86) (v := 4) K at_85 rfl rfl ?_
    refine go_ic_le_t (pc' := 99) K at_86 (by decide) (by decide) (by decide) ?_
    refine go_iload (pc' := 101) K at_99 rfl rfl ?_
    refine go_iconst (pc' := 102) (v := 5) K at_101 rfl rfl ?_
    refine go_ic_le_t (pc' := 115) K at_102 (by decide) (by decide) (by decide) ?_
    refine go_iload (pc' := 117) K at_115 rfl rfl ?_
    refine go_bipush (pc' := 119) (v := 6) K at_117 (by decide) rfl ?_
    refine go_ic_le_t (pc' := 133) K at_119 (by decide) (by decide) (by decide) ?_
    exact J133 b _ (by simp) (by intro x hx; simp only [List.mem_cons, List.not_mem_nil, or_false] at hx; rcases hx with rfl | rfl <;> exact own_fb _)
  ·
    refine go_iload (pc' := 19) K at_17 rfl rfl ?_
    refine go_newB (pc' := 21) (m := 3) (cap := 7) K (hw _ (List.mem_of_getElem? (i := 1) rfl)) at_19 (by decide) (by decide) (by decide) (by decide) (by decide) rfl (fun b hgb hlb => ?_)
    show Go W Q [(b, ba [0, 0, 0])] 1 7 21 #[.val (.int p0), .val (.int p1), .val (.long p2), .second, .val (.int 3), .val (.int k), .unset, .unset, .unset, .unset, .unset, .unset] [(.ref b)]
    refine go_astore (pc' := 23) (Ls' := #[.val (.int p0), .val (.int p1), .val (.long p2), .second, .val (.int 3), .val (.int k), .val (.ref b), .unset, .unset, .unset, .unset, .unset]) K at_21 rfl rfl rfl ?_
    refine go_iload (pc' := 25) K at_23 rfl rfl ?_
    refine go_if_le_f (pc' := 28) K at_25 (by decide) rfl ?_
    refine go_aload (pc' := 30) K at_28 rfl rfl rfl ?_
    refine go_iconst (pc' := 31) (v := 0) K at_30 rfl rfl ?_
    refine go_lloadN (pc' := 32) K at_31 rfl rfl ?_
    refine go_l2i (pc' := 33) K at_32 rfl ?_
    refine go_i2b (pc' := 34) K at_33 rfl ?_
    refine go_bastore (pc' := 35) (i := 0) (m := 0) (ds' := [(b, ba [(nar .byte p2.toInt32.toInt8.toInt32), 0, 0])]) K rfl at_34 (by decide) (by simp) rfl rfl ?_
    refine go_iload (pc' := 37) K at_35 rfl rfl ?_
    refine go_iconst (pc' := 38) (v := 1) K at_37 rfl rfl ?_
    refine go_ic_le_f (pc' := 41) K at_38 (by decide) rfl ?_
    refine go_aload (pc' := 43) K at_41 rfl rfl rfl ?_
    refine go_iconst (pc' := 44) (v := 1) K at_43 rfl rfl ?_
    refine go_lloadN (pc' := 45) K at_44 rfl rfl ?_
    refine go_bipush (pc' := 47) (v := 8) K at_45 (by decide) rfl ?_
    refine go_lushr (pc' := 48) K at_47 rfl ?_
    refine go_l2i (pc' := 49) K at_48 rfl ?_
    refine go_i2b (pc' := 50) K at_49 rfl ?_
    refine go_bastore (pc' := 51) (i := 0) (m := 1) (ds' := [(b, ba [(nar .byte p2.toInt32.toInt8.toInt32), (nar .byte (((XT.ushrL p2 8).toInt32).toInt8.toInt32)), 0])]) K rfl at_50 (by decide) (by simp) rfl rfl ?_
    refine go_iload (pc' := 53) K at_51 rfl rfl ?_
    refine go_iconst (pc' := 54) (v := 2) K at_53 rfl rfl ?_
    refine go_ic_le_f (pc' := 57) K at_54 (by decide) rfl ?_
    refine go_aload (pc' := 59) K at_57 rfl rfl rfl ?_
    refine go_iconst (pc' := 60) (v := 2) K at_59 rfl rfl ?_
    refine go_lloadN (pc' := 61) K at_60 rfl rfl ?_
    refine go_bipush (pc' := 63) (v := 16) K at_61 (by decide) rfl ?_
    refine go_lushr (pc' := 64) K at_63 rfl ?_
    refine go_l2i (pc' := 65) K at_64 rfl ?_
    refine go_i2b (pc' := 66) K at_65 rfl ?_
    refine go_bastore (pc' := 67) (i := 0) (m := 2) (ds' := [(b, ba [(nar .byte p2.toInt32.toInt8.toInt32), (nar .byte (((XT.ushrL p2 8).toInt32).toInt8.toInt32)), (nar .byte (((XT.ushrL p2 16).toInt32).toInt8.toInt32))])]) K rfl at_66 (by decide) (by simp) rfl rfl ?_
    refine go_iload (pc' := 69) K at_67 rfl rfl ?_
    refine go_iconst (pc' := 70) (v := 3) K at_69 rfl rfl ?_
    refine go_ic_le_t (pc' := 83) K at_70 (by decide) (by decide) (by decide) ?_
    refine go_iload (pc' := 85) K at_83 rfl rfl ?_
    refine go_iconst (pc' := 86) (v := 4) K at_85 rfl rfl ?_
    refine go_ic_le_t (pc' := 99) K at_86 (by decide) (by decide) (by decide) ?_
    refine go_iload (pc' := 101) K at_99 rfl rfl ?_
    refine go_iconst (pc' := 102) (v := 5) K at_101 rfl rfl ?_
    refine go_ic_le_t (pc' := 115) K at_102 (by decide) (by decide) (by decide) ?_
    refine go_iload (pc' := 117) K at_115 rfl rfl ?_
    refine go_bipush (pc' := 119) (v := 6) K at_117 (by decide) rfl ?_
    refine go_ic_le_t (pc' := 133) K at_119 (by decide) (by decide) (by decide) ?_
    exact J133 b _ (by simp) (by intro x hx; simp only [List.mem_cons, List.not_mem_nil, or_false] at hx; rcases hx with rfl | rfl | rfl <;> exact own_fb _)
  ·
    refine go_iload (pc' := 19) K at_17 rfl rfl ?_
    refine go_newB (pc' := 21) (m := 4) (cap := 7) K (hw _ (List.mem_of_getElem? (i := 1) rfl)) at_19 (by decide) (by decide) (by decide) (by decide) (by decide) rfl (fun b hgb hlb => ?_)
    show Go W Q [(b, ba [0, 0, 0, 0])] 1 7 21 #[.val (.int p0), .val (.int p1), .val (.long p2), .second, .val (.int 4), .val (.int k), .unset, .unset, .unset, .unset, .unset, .unset] [(.ref b)]
    refine go_astore (pc' := 23) (Ls' := #[.val (.int p0), .val (.int p1), .val (.long p2), .second, .val (.int 4), .val (.int k), .val (.ref b), .unset, .unset, .unset, .unset, .unset]) K at_21 rfl rfl rfl ?_
    refine go_iload (pc' := 25) K at_23 rfl rfl ?_
    refine go_if_le_f (pc' := 28) K at_25 (by decide) rfl ?_
    refine go_aload (pc' := 30) K at_28 rfl rfl rfl ?_
    refine go_iconst (pc' := 31) (v := 0) K at_30 rfl rfl ?_
    refine go_lloadN (pc' := 32) K at_31 rfl rfl ?_
    refine go_l2i (pc' := 33) K at_32 rfl ?_
    refine go_i2b (pc' := 34) K at_33 rfl ?_
    refine go_bastore (pc' := 35) (i := 0) (m := 0) (ds' := [(b, ba [(nar .byte p2.toInt32.toInt8.toInt32), 0, 0, 0])]) K rfl at_34 (by decide) (by simp) rfl rfl ?_
    refine go_iload (pc' := 37) K at_35 rfl rfl ?_
    refine go_iconst (pc' := 38) (v := 1) K at_37 rfl rfl ?_
    refine go_ic_le_f (pc' := 41) K at_38 (by decide) rfl ?_
    refine go_aload (pc' := 43) K at_41 rfl rfl rfl ?_
    refine go_iconst (pc' := 44) (v := 1) K at_43 rfl rfl ?_
    refine go_lloadN (pc' := 45) K at_44 rfl rfl ?_
    refine go_bipush (pc' := 47) (v := 8) K at_45 (by decide) rfl ?_
    refine go_lushr (pc' := 48) K at_47 rfl ?_
    refine go_l2i (pc' := 49) K at_48 rfl ?_
    refine go_i2b (pc' := 50) K at_49 rfl ?_
    refine go_bastore (pc' := 51) (i := 0) (m := 1) (ds' := [(b, ba [(nar .byte p2.toInt32.toInt8.toInt32), (nar .byte (((XT.ushrL p2 8).toInt32).toInt8.toInt32)), 0, 0])]) K rfl at_50 (by decide) (by simp) rfl rfl ?_
    refine go_iload (pc' := 53) K at_51 rfl rfl ?_
    refine go_iconst (pc' := 54) (v := 2) K at_53 rfl rfl ?_
    refine go_ic_le_f (pc' := 57) K at_54 (by decide) rfl ?_
    refine go_aload (pc' := 59) K at_57 rfl rfl rfl ?_
    refine go_iconst (pc' := 60) (v := 2) K at_59 rfl rfl ?_
    refine go_lloadN (pc' := 61) K at_60 rfl rfl ?_
    refine go_bipush (pc' := 63) (v := 16) K at_61 (by decide) rfl ?_
    refine go_lushr (pc' := 64) K at_63 rfl ?_
    refine go_l2i (pc' := 65) K at_64 rfl ?_
    refine go_i2b (pc' := 66) K at_65 rfl ?_
    refine go_bastore (pc' := 67) (i := 0) (m := 2) (ds' := [(b, ba [(nar .byte p2.toInt32.toInt8.toInt32), (nar .byte (((XT.ushrL p2 8).toInt32).toInt8.toInt32)), (nar .byte (((XT.ushrL p2 16).toInt32).toInt8.toInt32)), 0])]) K rfl at_66 (by decide) (by simp) rfl rfl ?_
    refine go_iload (pc' := 69) K at_67 rfl rfl ?_
    refine go_iconst (pc' := 70) (v := 3) K at_69 rfl rfl ?_
    refine go_ic_le_f (pc' := 73) K at_70 (by decide) rfl ?_
    refine go_aload (pc' := 75) K at_73 rfl rfl rfl ?_
    refine go_iconst (pc' := 76) (v := 3) K at_75 rfl rfl ?_
    refine go_lloadN (pc' := 77) K at_76 rfl rfl ?_
    refine go_bipush (pc' := 79) (v := 24) K at_77 (by decide) rfl ?_
    refine go_lushr (pc' := 80) K at_79 rfl ?_
    refine go_l2i (pc' := 81) K at_80 rfl ?_
    refine go_i2b (pc' := 82) K at_81 rfl ?_
    refine go_bastore (pc' := 83) (i := 0) (m := 3) (ds' := [(b, ba [(nar .byte p2.toInt32.toInt8.toInt32), (nar .byte (((XT.ushrL p2 8).toInt32).toInt8.toInt32)), (nar .byte (((XT.ushrL p2 16).toInt32).toInt8.toInt32)), (nar .byte (((XT.ushrL p2 24).toInt32).toInt8.toInt32))])]) K rfl at_82 (by decide) (by simp) rfl rfl ?_
    refine go_iload (pc' := 85) K at_83 rfl rfl ?_
    refine go_iconst (pc' := 86) (v := 4) K at_85 rfl rfl ?_
    refine go_ic_le_t (pc' := 99) K at_86 (by decide) (by decide) (by decide) ?_
    refine go_iload (pc' := 101) K at_99 rfl rfl ?_
    refine go_iconst (pc' := 102) (v := 5) K at_101 rfl rfl ?_
    refine go_ic_le_t (pc' := 115) K at_102 (by decide) (by decide) (by decide) ?_
    refine go_iload (pc' := 117) K at_115 rfl rfl ?_
    refine go_bipush (pc' := 119) (v := 6) K at_117 (by decide) rfl ?_
    refine go_ic_le_t (pc' := 133) K at_119 (by decide) (by decide) (by decide) ?_
    exact J133 b _ (by simp) (by intro x hx; simp only [List.mem_cons, List.not_mem_nil, or_false] at hx; rcases hx with rfl | rfl | rfl | rfl <;> exact own_fb _)
  ·
    refine go_iload (pc' := 19) K at_17 rfl rfl ?_
    refine go_newB (pc' := 21) (m := 5) (cap := 7) K (hw _ (List.mem_of_getElem? (i := 1) rfl)) at_19 (by decide) (by decide) (by decide) (by decide) (by decide) rfl (fun b hgb hlb => ?_)
    show Go W Q [(b, ba [0, 0, 0, 0, 0])] 1 7 21 #[.val (.int p0), .val (.int p1), .val (.long p2), .second, .val (.int 5), .val (.int k), .unset, .unset, .unset, .unset, .unset, .unset] [(.ref b)]
    refine go_astore (pc' := 23) (Ls' := #[.val (.int p0), .val (.int p1), .val (.long p2), .second, .val (.int 5), .val (.int k), .val (.ref b), .unset, .unset, .unset, .unset, .unset]) K at_21 rfl rfl rfl ?_
    refine go_iload (pc' := 25) K at_23 rfl rfl ?_
    refine go_if_le_f (pc' := 28) K at_25 (by decide) rfl ?_
    refine go_aload (pc' := 30) K at_28 rfl rfl rfl ?_
    refine go_iconst (pc' := 31) (v := 0) K at_30 rfl rfl ?_
    refine go_lloadN (pc' := 32) K at_31 rfl rfl ?_
    refine go_l2i (pc' := 33) K at_32 rfl ?_
    refine go_i2b (pc' := 34) K at_33 rfl ?_
    refine go_bastore (pc' := 35) (i := 0) (m := 0) (ds' := [(b, ba [(nar .byte p2.toInt32.toInt8.toInt32), 0, 0, 0, 0])]) K rfl at_34 (by decide) (by simp) rfl rfl ?_
    refine go_iload (pc' := 37) K at_35 rfl rfl ?_
    refine go_iconst (pc' := 38) (v := 1) K at_37 rfl rfl ?_
    refine go_ic_le_f (pc' := 41) K at_38 (by decide) rfl ?_
    refine go_aload (pc' := 43) K at_41 rfl rfl rfl ?_
    refine go_iconst (pc' := 44) (v := 1) K at_43 rfl rfl ?_
    refine go_lloadN (pc' := 45) K at_44 rfl rfl ?_
    refine go_bipush (pc' := 47) (v := 8) K at_45 (by decide) rfl ?_
    refine go_lushr (pc' := 48) K at_47 rfl ?_
    refine go_l2i (pc' := 49) K at_48 rfl ?_
    refine go_i2b (pc' := 50) K at_49 rfl ?_
    refine go_bastore (pc' := 51) (i := 0) (m := 1) (ds' := [(b, ba [(nar .byte p2.toInt32.toInt8.toInt32), (nar .byte (((XT.ushrL p2 8).toInt32).toInt8.toInt32)), 0, 0, 0])]) K rfl at_50 (by decide) (by simp) rfl rfl ?_
    refine go_iload (pc' := 53) K at_51 rfl rfl ?_
    refine go_iconst (pc' := 54) (v := 2) K at_53 rfl rfl ?_
    refine go_ic_le_f (pc' := 57) K at_54 (by decide) rfl ?_
    refine go_aload (pc' := 59) K at_57 rfl rfl rfl ?_
    refine go_iconst (pc' := 60) (v := 2) K at_59 rfl rfl ?_
    refine go_lloadN (pc' := 61) K at_60 rfl rfl ?_
    refine go_bipush (pc' := 63) (v := 16) K at_61 (by decide) rfl ?_
    refine go_lushr (pc' := 64) K at_63 rfl ?_
    refine go_l2i (pc' := 65) K at_64 rfl ?_
    refine go_i2b (pc' := 66) K at_65 rfl ?_
    refine go_bastore (pc' := 67) (i := 0) (m := 2) (ds' := [(b, ba [(nar .byte p2.toInt32.toInt8.toInt32), (nar .byte (((XT.ushrL p2 8).toInt32).toInt8.toInt32)), (nar .byte (((XT.ushrL p2 16).toInt32).toInt8.toInt32)), 0, 0])]) K rfl at_66 (by decide) (by simp) rfl rfl ?_
    refine go_iload (pc' := 69) K at_67 rfl rfl ?_
    refine go_iconst (pc' := 70) (v := 3) K at_69 rfl rfl ?_
    refine go_ic_le_f (pc' := 73) K at_70 (by decide) rfl ?_
    refine go_aload (pc' := 75) K at_73 rfl rfl rfl ?_
    refine go_iconst (pc' := 76) (v := 3) K at_75 rfl rfl ?_
    refine go_lloadN (pc' := 77) K at_76 rfl rfl ?_
    refine go_bipush (pc' := 79) (v := 24) K at_77 (by decide) rfl ?_
    refine go_lushr (pc' := 80) K at_79 rfl ?_
    refine go_l2i (pc' := 81) K at_80 rfl ?_
    refine go_i2b (pc' := 82) K at_81 rfl ?_
    refine go_bastore (pc' := 83) (i := 0) (m := 3) (ds' := [(b, ba [(nar .byte p2.toInt32.toInt8.toInt32), (nar .byte (((XT.ushrL p2 8).toInt32).toInt8.toInt32)), (nar .byte (((XT.ushrL p2 16).toInt32).toInt8.toInt32)), (nar .byte (((XT.ushrL p2 24).toInt32).toInt8.toInt32)), 0])]) K rfl at_82 (by decide) (by simp) rfl rfl ?_
    refine go_iload (pc' := 85) K at_83 rfl rfl ?_
    refine go_iconst (pc' := 86) (v := 4) K at_85 rfl rfl ?_
    refine go_ic_le_f (pc' := 89) K at_86 (by decide) rfl ?_
    refine go_aload (pc' := 91) K at_89 rfl rfl rfl ?_
    refine go_iconst (pc' := 92) (v := 4) K at_91 rfl rfl ?_
    refine go_lloadN (pc' := 93) K at_92 rfl rfl ?_
    refine go_bipush (pc' := 95) (v := 32) K at_93 (by decide) rfl ?_
    refine go_lushr (pc' := 96) K at_95 rfl ?_
    refine go_l2i (pc' := 97) K at_96 rfl ?_
    refine go_i2b (pc' := 98) K at_97 rfl ?_
    refine go_bastore (pc' := 99) (i := 0) (m := 4) (ds' := [(b, ba [(nar .byte p2.toInt32.toInt8.toInt32), (nar .byte (((XT.ushrL p2 8).toInt32).toInt8.toInt32)), (nar .byte (((XT.ushrL p2 16).toInt32).toInt8.toInt32)), (nar .byte (((XT.ushrL p2 24).toInt32).toInt8.toInt32)), (nar .byte (((XT.ushrL p2 32).toInt32).toInt8.toInt32))])]) K rfl at_98 (by decide) (by simp) rfl rfl ?_
    refine go_iload (pc' := 101) K at_99 rfl rfl ?_
    refine go_iconst (pc' := 102) (v := 5) K at_101 rfl rfl ?_
    refine go_ic_le_t (pc' := 115) K at_102 (by decide) (by decide) (by decide) ?_
    refine go_iload (pc' := 117) K at_115 rfl rfl ?_
    refine go_bipush (pc' := 119) (v := 6) K at_117 (by decide) rfl ?_
    refine go_ic_le_t (pc' := 133) K at_119 (by decide) (by decide) (by decide) ?_
    exact J133 b _ (by simp) (by intro x hx; simp only [List.mem_cons, List.not_mem_nil, or_false] at hx; rcases hx with rfl | rfl | rfl | rfl | rfl <;> exact own_fb _)
  ·
    refine go_iload (pc' := 19) K at_17 rfl rfl ?_
    refine go_newB (pc' := 21) (m := 6) (cap := 7) K (hw _ (List.mem_of_getElem? (i := 1) rfl)) at_19 (by decide) (by decide) (by decide) (by decide) (by decide) rfl (fun b hgb hlb => ?_)
    show Go W Q [(b, ba [0, 0, 0, 0, 0, 0])] 1 7 21 #[.val (.int p0), .val (.int p1), .val (.long p2), .second, .val (.int 6), .val (.int k), .unset, .unset, .unset, .unset, .unset, .unset] [(.ref b)]
    refine go_astore (pc' := 23) (Ls' := #[.val (.int p0), .val (.int p1), .val (.long p2), .second, .val (.int 6), .val (.int k), .val (.ref b), .unset, .unset, .unset, .unset, .unset]) K at_21 rfl rfl rfl ?_
    refine go_iload (pc' := 25) K at_23 rfl rfl ?_
    refine go_if_le_f (pc' := 28) K at_25 (by decide) rfl ?_
    refine go_aload (pc' := 30) K at_28 rfl rfl rfl ?_
    refine go_iconst (pc' := 31) (v := 0) K at_30 rfl rfl ?_
    refine go_lloadN (pc' := 32) K at_31 rfl rfl ?_
    refine go_l2i (pc' := 33) K at_32 rfl ?_
    refine go_i2b (pc' := 34) K at_33 rfl ?_
    refine go_bastore (pc' := 35) (i := 0) (m := 0) (ds' := [(b, ba [(nar .byte p2.toInt32.toInt8.toInt32), 0, 0, 0, 0, 0])]) K rfl at_34 (by decide) (by simp) rfl rfl ?_
    refine go_iload (pc' := 37) K at_35 rfl rfl ?_
    refine go_iconst (pc' := 38) (v := 1) K at_37 rfl rfl ?_
    refine go_ic_le_f (pc' := 41) K at_38 (by decide) rfl ?_
    refine go_aload (pc' := 43) K at_41 rfl rfl rfl ?_
    refine go_iconst (pc' := 44) (v := 1) K at_43 rfl rfl ?_
    refine go_lloadN (pc' := 45) K at_44 rfl rfl ?_
    refine go_bipush (pc' := 47) (v := 8) K at_45 (by decide) rfl ?_
    refine go_lushr (pc' := 48) K at_47 rfl ?_
    refine go_l2i (pc' := 49) K at_48 rfl ?_
    refine go_i2b (pc' := 50) K at_49 rfl ?_
    refine go_bastore (pc' := 51) (i := 0) (m := 1) (ds' := [(b, ba [(nar .byte p2.toInt32.toInt8.toInt32), (nar .byte (((XT.ushrL p2 8).toInt32).toInt8.toInt32)), 0, 0, 0, 0])]) K rfl at_50 (by decide) (by simp) rfl rfl ?_
    refine go_iload (pc' := 53) K at_51 rfl rfl ?_
    refine go_iconst (pc' := 54) (v := 2) K at_53 rfl rfl ?_
    refine go_ic_le_f (pc' := 57) K at_54 (by decide) rfl ?_
    refine go_aload (pc' := 59) K at_57 rfl rfl rfl ?_
    refine go_iconst (pc' := 60) (v := 2) K at_59 rfl rfl ?_
    refine go_lloadN (pc' := 61) K at_60 rfl rfl ?_
    refine go_bipush (pc' := 63) (v := 16) K at_61 (by decide) rfl ?_
    refine go_lushr (pc' := 64) K at_63 rfl ?_
    refine go_l2i (pc' := 65) K at_64 rfl ?_
    refine go_i2b (pc' := 66) K at_65 rfl ?_
    refine go_bastore (pc' := 67) (i := 0) (m := 2) (ds' := [(b, ba [(nar .byte p2.toInt32.toInt8.toInt32), (nar .byte (((XT.ushrL p2 8).toInt32).toInt8.toInt32)), (nar .byte (((XT.ushrL p2 16).toInt32).toInt8.toInt32)), 0, 0, 0])]) K rfl at_66 (by decide) (by simp) rfl rfl ?_
    refine go_iload (pc' := 69) K at_67 rfl rfl ?_
    refine go_iconst (pc' := 70) (v := 3) K at_69 rfl rfl ?_
    refine go_ic_le_f (pc' := 73) K at_70 (by decide) rfl ?_
    refine go_aload (pc' := 75) K at_73 rfl rfl rfl ?_
    refine go_iconst (pc' := 76) (v := 3) K at_75 rfl rfl ?_
    refine go_lloadN (pc' := 77) K at_76 rfl rfl ?_
    refine go_bipush (pc' := 79) (v := 24) K at_77 (by decide) rfl ?_
    refine go_lushr (pc' := 80) K at_79 rfl ?_
    refine go_l2i (pc' := 81) K at_80 rfl ?_
    refine go_i2b (pc' := 82) K at_81 rfl ?_
    refine go_bastore (pc' := 83) (i := 0) (m := 3) (ds' := [(b, ba [(nar .byte p2.toInt32.toInt8.toInt32), (nar .byte (((XT.ushrL p2 8).toInt32).toInt8.toInt32)), (nar .byte (((XT.ushrL p2 16).toInt32).toInt8.toInt32)), (nar .byte (((XT.ushrL p2 24).toInt32).toInt8.toInt32)), 0, 0])]) K rfl at_82 (by decide) (by simp) rfl rfl ?_
    refine go_iload (pc' := 85) K at_83 rfl rfl ?_
    refine go_iconst (pc' := 86) (v := 4) K at_85 rfl rfl ?_
    refine go_ic_le_f (pc' := 89) K at_86 (by decide) rfl ?_
    refine go_aload (pc' := 91) K at_89 rfl rfl rfl ?_
    refine go_iconst (pc' := 92) (v := 4) K at_91 rfl rfl ?_
    refine go_lloadN (pc' := 93) K at_92 rfl rfl ?_
    refine go_bipush (pc' := 95) (v := 32) K at_93 (by decide) rfl ?_
    refine go_lushr (pc' := 96) K at_95 rfl ?_
    refine go_l2i (pc' := 97) K at_96 rfl ?_
    refine go_i2b (pc' := 98) K at_97 rfl ?_
    refine go_bastore (pc' := 99) (i := 0) (m := 4) (ds' := [(b, ba [(nar .byte p2.toInt32.toInt8.toInt32), (nar .byte (((XT.ushrL p2 8).toInt32).toInt8.toInt32)), (nar .byte (((XT.ushrL p2 16).toInt32).toInt8.toInt32)), (nar .byte (((XT.ushrL p2 24).toInt32).toInt8.toInt32)), (nar .byte (((XT.ushrL p2 32).toInt32).toInt8.toInt32)), 0])]) K rfl at_98 (by decide) (by simp) rfl rfl ?_
    refine go_iload (pc' := 101) K at_99 rfl rfl ?_
    refine go_iconst (pc' := 102) (v := 5) K at_101 rfl rfl ?_
    refine go_ic_le_f (pc' := 105) K at_102 (by decide) rfl ?_
    refine go_aload (pc' := 107) K at_105 rfl rfl rfl ?_
    refine go_iconst (pc' := 108) (v := 5) K at_107 rfl rfl ?_
    refine go_lloadN (pc' := 109) K at_108 rfl rfl ?_
    refine go_bipush (pc' := 111) (v := 40) K at_109 (by decide) rfl ?_
    refine go_lushr (pc' := 112) K at_111 rfl ?_
    refine go_l2i (pc' := 113) K at_112 rfl ?_
    refine go_i2b (pc' := 114) K at_113 rfl ?_
    refine go_bastore (pc' := 115) (i := 0) (m := 5) (ds' := [(b, ba [(nar .byte p2.toInt32.toInt8.toInt32), (nar .byte (((XT.ushrL p2 8).toInt32).toInt8.toInt32)), (nar .byte (((XT.ushrL p2 16).toInt32).toInt8.toInt32)), (nar .byte (((XT.ushrL p2 24).toInt32).toInt8.toInt32)), (nar .byte (((XT.ushrL p2 32).toInt32).toInt8.toInt32)), (nar .byte (((XT.ushrL p2 40).toInt32).toInt8.toInt32))])]) K rfl at_114 (by decide) (by simp) rfl rfl ?_
    refine go_iload (pc' := 117) K at_115 rfl rfl ?_
    refine go_bipush (pc' := 119) (v := 6) K at_117 (by decide) rfl ?_
    refine go_ic_le_t (pc' := 133) K at_119 (by decide) (by decide) (by decide) ?_
    exact J133 b _ (by simp) (by intro x hx; simp only [List.mem_cons, List.not_mem_nil, or_false] at hx; rcases hx with rfl | rfl | rfl | rfl | rfl | rfl <;> exact own_fb _)
  ·
    refine go_iload (pc' := 19) K at_17 rfl rfl ?_
    refine go_newB (pc' := 21) (m := 7) (cap := 7) K (hw _ (List.mem_of_getElem? (i := 1) rfl)) at_19 (by decide) (by decide) (by decide) (by decide) (by decide) rfl (fun b hgb hlb => ?_)
    show Go W Q [(b, ba [0, 0, 0, 0, 0, 0, 0])] 1 7 21 #[.val (.int p0), .val (.int p1), .val (.long p2), .second, .val (.int 7), .val (.int k), .unset, .unset, .unset, .unset, .unset, .unset] [(.ref b)]
    refine go_astore (pc' := 23) (Ls' := #[.val (.int p0), .val (.int p1), .val (.long p2), .second, .val (.int 7), .val (.int k), .val (.ref b), .unset, .unset, .unset, .unset, .unset]) K at_21 rfl rfl rfl ?_
    refine go_iload (pc' := 25) K at_23 rfl rfl ?_
    refine go_if_le_f (pc' := 28) K at_25 (by decide) rfl ?_
    refine go_aload (pc' := 30) K at_28 rfl rfl rfl ?_
    refine go_iconst (pc' := 31) (v := 0) K at_30 rfl rfl ?_
    refine go_lloadN (pc' := 32) K at_31 rfl rfl ?_
    refine go_l2i (pc' := 33) K at_32 rfl ?_
    refine go_i2b (pc' := 34) K at_33 rfl ?_
    refine go_bastore (pc' := 35) (i := 0) (m := 0) (ds' := [(b, ba [(nar .byte p2.toInt32.toInt8.toInt32), 0, 0, 0, 0, 0, 0])]) K rfl at_34 (by decide) (by simp) rfl rfl ?_
    refine go_iload (pc' := 37) K at_35 rfl rfl ?_
    refine go_iconst (pc' := 38) (v := 1) K at_37 rfl rfl ?_
    refine go_ic_le_f (pc' := 41) K at_38 (by decide) rfl ?_
    refine go_aload (pc' := 43) K at_41 rfl rfl rfl ?_
    refine go_iconst (pc' := 44) (v := 1) K at_43 rfl rfl ?_
    refine go_lloadN (pc' := 45) K at_44 rfl rfl ?_
    refine go_bipush (pc' := 47) (v := 8) K at_45 (by decide) rfl ?_
    refine go_lushr (pc' := 48) K at_47 rfl ?_
    refine go_l2i (pc' := 49) K at_48 rfl ?_
    refine go_i2b (pc' := 50) K at_49 rfl ?_
    refine go_bastore (pc' := 51) (i := 0) (m := 1) (ds' := [(b, ba [(nar .byte p2.toInt32.toInt8.toInt32), (nar .byte (((XT.ushrL p2 8).toInt32).toInt8.toInt32)), 0, 0, 0, 0, 0])]) K rfl at_50 (by decide) (by simp) rfl rfl ?_
    refine go_iload (pc' := 53) K at_51 rfl rfl ?_
    refine go_iconst (pc' := 54) (v := 2) K at_53 rfl rfl ?_
    refine go_ic_le_f (pc' := 57) K at_54 (by decide) rfl ?_
    refine go_aload (pc' := 59) K at_57 rfl rfl rfl ?_
    refine go_iconst (pc' := 60) (v := 2) K at_59 rfl rfl ?_
    refine go_lloadN (pc' := 61) K at_60 rfl rfl ?_
    refine go_bipush (pc' := 63) (v := 16) K at_61 (by decide) rfl ?_
    refine go_lushr (pc' := 64) K at_63 rfl ?_
    refine go_l2i (pc' := 65) K at_64 rfl ?_
    refine go_i2b (pc' := 66) K at_65 rfl ?_
    refine go_bastore (pc' := 67) (i := 0) (m := 2) (ds' := [(b, ba [(nar .byte p2.toInt32.toInt8.toInt32), (nar .byte (((XT.ushrL p2 8).toInt32).toInt8.toInt32)), (nar .byte (((XT.ushrL p2 16).toInt32).toInt8.toInt32)), 0, 0, 0, 0])]) K rfl at_66 (by decide) (by simp) rfl rfl ?_
    refine go_iload (pc' := 69) K at_67 rfl rfl ?_
    refine go_iconst (pc' := 70) (v := 3) K at_69 rfl rfl ?_
    refine go_ic_le_f (pc' := 73) K at_70 (by decide) rfl ?_
    refine go_aload (pc' := 75) K at_73 rfl rfl rfl ?_
    refine go_iconst (pc' := 76) (v := 3) K at_75 rfl rfl ?_
    refine go_lloadN (pc' := 77) K at_76 rfl rfl ?_
    refine go_bipush (pc' := 79) (v := 24) K at_77 (by decide) rfl ?_
    refine go_lushr (pc' := 80) K at_79 rfl ?_
    refine go_l2i (pc' := 81) K at_80 rfl ?_
    refine go_i2b (pc' := 82) K at_81 rfl ?_
    refine go_bastore (pc' := 83) (i := 0) (m := 3) (ds' := [(b, ba [(nar .byte p2.toInt32.toInt8.toInt32), (nar .byte (((XT.ushrL p2 8).toInt32).toInt8.toInt32)), (nar .byte (((XT.ushrL p2 16).toInt32).toInt8.toInt32)), (nar .byte (((XT.ushrL p2 24).toInt32).toInt8.toInt32)), 0, 0, 0])]) K rfl at_82 (by decide) (by simp) rfl rfl ?_
    refine go_iload (pc' := 85) K at_83 rfl rfl ?_
    refine go_iconst (pc' := 86) (v := 4) K at_85 rfl rfl ?_
    refine go_ic_le_f (pc' := 89) K at_86 (by decide) rfl ?_
    refine go_aload (pc' := 91) K at_89 rfl rfl rfl ?_
    refine go_iconst (pc' := 92) (v := 4) K at_91 rfl rfl ?_
    refine go_lloadN (pc' := 93) K at_92 rfl rfl ?_
    refine go_bipush (pc' := 95) (v := 32) K at_93 (by decide) rfl ?_
    refine go_lushr (pc' := 96) K at_95 rfl ?_
    refine go_l2i (pc' := 97) K at_96 rfl ?_
    refine go_i2b (pc' := 98) K at_97 rfl ?_
    refine go_bastore (pc' := 99) (i := 0) (m := 4) (ds' := [(b, ba [(nar .byte p2.toInt32.toInt8.toInt32), (nar .byte (((XT.ushrL p2 8).toInt32).toInt8.toInt32)), (nar .byte (((XT.ushrL p2 16).toInt32).toInt8.toInt32)), (nar .byte (((XT.ushrL p2 24).toInt32).toInt8.toInt32)), (nar .byte (((XT.ushrL p2 32).toInt32).toInt8.toInt32)), 0, 0])]) K rfl at_98 (by decide) (by simp) rfl rfl ?_
    refine go_iload (pc' := 101) K at_99 rfl rfl ?_
    refine go_iconst (pc' := 102) (v := 5) K at_101 rfl rfl ?_
    refine go_ic_le_f (pc' := 105) K at_102 (by decide) rfl ?_
    refine go_aload (pc' := 107) K at_105 rfl rfl rfl ?_
    refine go_iconst (pc' := 108) (v := 5) K at_107 rfl rfl ?_
    refine go_lloadN (pc' := 109) K at_108 rfl rfl ?_
    refine go_bipush (pc' := 111) (v := 40) K at_109 (by decide) rfl ?_
    refine go_lushr (pc' := 112) K at_111 rfl ?_
    refine go_l2i (pc' := 113) K at_112 rfl ?_
    refine go_i2b (pc' := 114) K at_113 rfl ?_
    refine go_bastore (pc' := 115) (i := 0) (m := 5) (ds' := [(b, ba [(nar .byte p2.toInt32.toInt8.toInt32), (nar .byte (((XT.ushrL p2 8).toInt32).toInt8.toInt32)), (nar .byte (((XT.ushrL p2 16).toInt32).toInt8.toInt32)), (nar .byte (((XT.ushrL p2 24).toInt32).toInt8.toInt32)), (nar .byte (((XT.ushrL p2 32).toInt32).toInt8.toInt32)), (nar .byte (((XT.ushrL p2 40).toInt32).toInt8.toInt32)), 0])]) K rfl at_114 (by decide) (by simp) rfl rfl ?_
    refine go_iload (pc' := 117) K at_115 rfl rfl ?_
    refine go_bipush (pc' := 119) (v := 6) K at_117 (by decide) rfl ?_
    refine go_ic_le_f (pc' := 122) K at_119 (by decide) rfl ?_
    refine go_aload (pc' := 124) K at_122 rfl rfl rfl ?_
    refine go_bipush (pc' := 126) (v := 6) K at_124 (by decide) rfl ?_
    refine go_lloadN (pc' := 127) K at_126 rfl rfl ?_
    refine go_bipush (pc' := 129) (v := 48) K at_127 (by decide) rfl ?_
    refine go_lushr (pc' := 130) K at_129 rfl ?_
    refine go_l2i (pc' := 131) K at_130 rfl ?_
    refine go_i2b (pc' := 132) K at_131 rfl ?_
    refine go_bastore (pc' := 133) (i := 0) (m := 6) (ds' := [(b, ba [(nar .byte p2.toInt32.toInt8.toInt32), (nar .byte (((XT.ushrL p2 8).toInt32).toInt8.toInt32)), (nar .byte (((XT.ushrL p2 16).toInt32).toInt8.toInt32)), (nar .byte (((XT.ushrL p2 24).toInt32).toInt8.toInt32)), (nar .byte (((XT.ushrL p2 32).toInt32).toInt8.toInt32)), (nar .byte (((XT.ushrL p2 40).toInt32).toInt8.toInt32)), (nar .byte (((XT.ushrL p2 48).toInt32).toInt8.toInt32))])]) K rfl at_132 (by decide) (by simp) rfl rfl ?_
    exact J133 b _ (by simp) (by intro x hx; simp only [List.mem_cons, List.not_mem_nil, or_false] at hx; rcases hx with rfl | rfl | rfl | rfl | rfl | rfl | rfl <;> exact own_fb _)
  
set_option maxRecDepth 65536 in
set_option maxHeartbeats 40000000 in
theorem comes_1 {Post : Tables → Env → Array Value → State → Outcome → State → Prop} (hpost : ∀ tb e args s v u, (limb_1_1.after args s (.returned v) u = true ∧ limb_1_2.after args s (.returned v) u = true ∧ True) → FrameEnd s (.returned v) u (Jvm.fieldLocs frame_1_writes args s ++ Jvm.arrayLocs frame_1_arrays args s ++ Jvm.staticLocs frame_1_statics s) 16 128 → Post tb e args s (.returned v) u) :
    ArmFor flags0 classFile x code maxLocals ret World_1 tables_1 room_1 Calls_1 rest_1 Pre_1 Post := by
  intro l hfl _ _ p e ha hc hk s m args below hf hA hF happ hP
  obtain ⟨hcalls, hrest, hpre⟩ := hP
  obtain ⟨-, -, -, hnamed, -, -, -, hat⟩ := (Spec.applies_iff hf).mp happ
  obtain ⟨hg, hn⟩ := and_e (Cond.before_iff.mp (show (Jvm.Cond.and given_1 narrow_1).before args s = true from hpre))
  obtain ⟨hcount, g0⟩ := and_e hg
  obtain ⟨q0, g1⟩ := and_e g0
  obtain ⟨q1, g2⟩ := and_e g1
  obtain ⟨w0, w1, w2, rfl⟩ : ∃ w0 w1 w2 : Value, args = #[w0, w1, w2] := by
    have hs : args.size = 3 := by simpa [Cond.value, given_1] using hcount
    obtain ⟨L⟩ := args
    match L, hs with
    | [w0, w1, w2], _ => exact ⟨w0, w1, w2, rfl⟩
  have hw := fun d (hd : d ∈ tables_1) => atoms_spec (ws := Jvm.Cond.code x code maxLocals ret :: tables_1) hat d (List.mem_cons_of_mem _ hd)
  obtain ⟨i0, e0⟩ := is_v q0
  obtain rfl : w0 = (.int i0) := Option.some.inj e0
  obtain ⟨i1, e1⟩ := is_v q1
  obtain rfl : w1 = (.int i1) := Option.some.inj e1
  obtain ⟨i2, e2⟩ := isL_v g2
  obtain rfl : w2 = (.long i2) := Option.some.inj e2
  obtain ⟨n, o, h1, h2, h3, v, L, rfl, ⟨N, ds', -, rfl⟩, hq⟩ := law_ct l s s.heap _ hw i0 i1 i2  s.heap (HL.nil s s.heap) p e ha hc hk s m _ below hf ((Spec.applies_iff_loose hf).mp happ).1 ⟨rfl, State.Warmed39.refl s, rfl⟩ trivial
  refine ⟨n, _, h1, h2, h3, hpost _ _ _ _ _ _ ⟨Cond.after_iff.mpr rfl, Cond.after_iff.mpr (eq_i res_at (Term.int_eval (1)) rfl), trivial⟩ ⟨hq.1, hq.2.1, (hq.2.2.sift fun y hy => Or.inr (N y hy)).mono (by decide) (by decide)⟩⟩
theorem main_1_1 : Claimed_1_1 := comes_1 fun _ _ _ _ _ _ h hF => ⟨h.1, hF⟩
theorem main_1_2 : Claimed_1_2 := comes_1 fun _ _ _ _ _ _ h hF => ⟨h.2.1, hF⟩
end Jvm.Pilot.@@N@@
namespace Jvm.Pilot.@@N@@
open Jvm Jvm.ClassFile Sem Op Lib Jvm.Free Jvm.Stand Jvm.Pilot.@@N@@.Jvm.D
/-! MADE BY PROGRAM (witnessworld.py) out of the Statement's table words and the real class files: 12 classes; the members and pool entries that the words name. The judged class is class 1, her method 1. -/
namespace start1
open Jvm.ClassFile
def u (s : String) : CpInfo := .utf8 (stringToUtf16 s)
/-- a pool by its gaps: so many unusable entries, then the entry; so many at the end -/
def gap : Nat → List CpInfo → List CpInfo
  | 0, r => r
  | n + 1, r => .unusable :: gap n r
def poolList (es : List (Nat × CpInfo)) (last : Nat) : List CpInfo := es.foldr (fun e r => gap e.1 (e.2 :: r)) (gap last [])
def pool (es : List (Nat × CpInfo)) (last : Nat) : Array CpInfo := ⟨poolList es last⟩
def fileOf (pool : Array CpInfo) (this : Nat) (attrs : Array Attribute := #[]) (ms : Array MethodInfo := #[]) (fl : Nat := 33) (sup : Nat := 0) (ifs : Array Nat := #[]) (fds : Array FieldInfo := #[]) : ClassFile where
  minorVersion := 0
  majorVersion := 65
  constantPool := pool
  accessFlags := fl
  thisClass := this
  superClass := sup
  interfaces := ifs
  fields := fds
  methods := ms
  attributes := attrs
def plain (name : String) (sup : Option ClassId) : Class where
  name := name
  kind := .ordinary
  loader := none
  accessFlags := 33
  super := sup
  interfaces := #[]
  cf := none
  fields := #[]
  methods := #[]
  instanceTypes := #[]
  staticTypes := #[]
  resolved := #[]
  callSites := []
  init := .initialized
  statics := none
  mirror := none

def pool0 : Array CpInfo := pool [(5, u "<init>"), (0, u "()V"), (1, .class_ 10), (1, u "java/lang/Object"), (85, u "clone"), (0, u "()Ljava/lang/Object;")] 26

def k0c0 : Code := { maxStack := 0, maxLocals := 1, code := object_method_1_code, exceptionTable := #[], attributes := #[] }
def k0m0 : Method := { name := "<init>", desc := "()V", sig := { parameters := [], returnType := none }, accessFlags := 1, code := some k0c0 }
def k0m1 : Method := { name := "clone", desc := "()Ljava/lang/Object;", sig := { parameters := [], returnType := some (.object "java/lang/Object") }, accessFlags := 260, code := none }
/-- java/lang/Object -/
def k0 : Class := { plain "java/lang/Object" none with
  accessFlags := 33
  interfaces := #[]
  cf := some (fileOf pool0 8 #[] #[{ accessFlags := 1, nameIndex := 5, descriptorIndex := 6, attributes := #[] }, { accessFlags := 260, nameIndex := 96, descriptorIndex := 97, attributes := #[] }] 33 0 #[] #[])
  fields := #[]
  methods := #[k0m0, k0m1]
  instanceTypes := #[]
  staticTypes := #[]
  resolved := Array.replicate 124 none
  statics := none }

def pool1 : Array CpInfo := pool [(2, .class_ 4), (1, u "java/lang/Object"), (0, u "<init>"), (0, u "()V"), (0, .integer 2147483647), (0, .class_ 9), (0, u "com/example/hazusu/hazusu/StateBytes$Reader"), (0, .methodref 8 11), (0, .nameAndType 5 12), (0, u "([B)V"), (0, .methodref 8 14), (0, .nameAndType 15 16), (0, u "atEnd"), (0, u "()Z"), (0, .methodref 8 18), (0, .nameAndType 19 20), (0, u "readBytes"), (0, u "(J)[B"), (0, .methodref 8 22), (0, .nameAndType 23 24), (0, u "readByte"), (0, u "()I"), (0, .class_ 26), (0, u "com/example/hazusu/hazusu/ReaderAtEndPinLaw"), (2, u "law"), (0, u "(IIJ)Z")] 9

def k1m0 : Method := { name := "<init>", desc := "()V", sig := { parameters := [], returnType := none }, accessFlags := 1, code := none }
def k1c1 : Code := { maxStack := 5, maxLocals := 12, code := code, exceptionTable := #[], attributes := #[] }
def k1m1 : Method := { name := "law", desc := "(IIJ)Z", sig := { parameters := [.int, .int, .long], returnType := some .boolean }, accessFlags := 9, code := some k1c1 }
/-- com/example/hazusu/hazusu/ReaderAtEndPinLaw -/
def k1 : Class := { plain "com/example/hazusu/hazusu/ReaderAtEndPinLaw" (some 0) with
  accessFlags := 49
  interfaces := #[]
  cf := some (fileOf pool1 25 #[] #[{ accessFlags := 1, nameIndex := 5, descriptorIndex := 6, attributes := #[] }, { accessFlags := 9, nameIndex := 29, descriptorIndex := 30, attributes := #[] }] 49 2 #[] #[])
  fields := #[]
  methods := #[k1m0, k1m1]
  instanceTypes := #[]
  staticTypes := #[]
  resolved := Array.replicate 40 none
  statics := none }

def pool2 : Array CpInfo := pool [(1, .methodref 2 3), (0, .class_ 4), (0, .nameAndType 5 6), (0, u "java/lang/Object"), (0, u "<init>"), (0, u "()V"), (0, .fieldref 8 9), (0, .class_ 10), (0, .nameAndType 11 12), (0, u "com/example/hazusu/hazusu/StateBytes$Reader"), (0, u "bytes"), (0, u "[B"), (0, .fieldref 8 14), (0, .nameAndType 15 16), (0, u "at"), (0, u "I"), (11, .methodref 29 30), (0, .class_ 31), (0, .nameAndType 32 33), (0, u "java/util/Arrays"), (0, u "copyOfRange"), (0, u "([BII)[B"), (4, u "readByte"), (0, u "()I"), (11, u "([B)V"), (3, u "readBytes"), (0, u "(J)[B"), (4, u "atEnd"), (0, u "()Z"), (3, .class_ 67), (0, u "com/example/hazusu/hazusu/StateBytes")] 20

def k2c0 : Code := { maxStack := 2, maxLocals := 2, code := prog_29_method_1_code, exceptionTable := #[], attributes := #[] }
def k2m0 : Method := { name := "<init>", desc := "([B)V", sig := { parameters := [(.array .byte)], returnType := none }, accessFlags := 0, code := some k2c0 }
def k2c1 : Code := { maxStack := 5, maxLocals := 1, code := prog_29_method_2_code, exceptionTable := #[], attributes := #[] }
def k2m1 : Method := { name := "readByte", desc := "()I", sig := { parameters := [], returnType := some .int }, accessFlags := 0, code := some k2c1 }
def k2c2 : Code := { maxStack := 5, maxLocals := 4, code := prog_29_method_3_code, exceptionTable := #[], attributes := #[] }
def k2m2 : Method := { name := "readBytes", desc := "(J)[B", sig := { parameters := [.long], returnType := some (.array .byte) }, accessFlags := 0, code := some k2c2 }
def k2c3 : Code := { maxStack := 2, maxLocals := 1, code := prog_29_method_9_code, exceptionTable := #[], attributes := #[] }
def k2m3 : Method := { name := "atEnd", desc := "()Z", sig := { parameters := [], returnType := some .boolean }, accessFlags := 0, code := some k2c3 }
/-- com/example/hazusu/hazusu/StateBytes$Reader -/
def k2 : Class := { plain "com/example/hazusu/hazusu/StateBytes$Reader" (some 0) with
  accessFlags := 48
  interfaces := #[]
  cf := some (fileOf pool2 8 #[.nestHost 66] #[{ accessFlags := 0, nameIndex := 5, descriptorIndex := 51, attributes := #[] }, { accessFlags := 0, nameIndex := 38, descriptorIndex := 39, attributes := #[] }, { accessFlags := 0, nameIndex := 55, descriptorIndex := 56, attributes := #[] }, { accessFlags := 0, nameIndex := 61, descriptorIndex := 62, attributes := #[] }] 48 2 #[] #[{ accessFlags := 18, nameIndex := 11, descriptorIndex := 12, attributes := #[] }, { accessFlags := 2, nameIndex := 15, descriptorIndex := 16, attributes := #[] }])
  fields := #[{ name := "bytes", type := (.array .byte), accessFlags := 18, slot := 0, constantValue := 0 }, { name := "at", type := .int, accessFlags := 2, slot := 1, constantValue := 0 }]
  methods := #[k2m0, k2m1, k2m2, k2m3]
  instanceTypes := #[(.array .byte), .int]
  staticTypes := #[]
  resolved := Array.replicate 88 none
  statics := none }

def pool3 : Array CpInfo := pool [(2, .class_ 4), (1, u "java/lang/Object"), (0, u "<init>"), (0, u "()V"), (7, .class_ 16), (1, u "java/util/Arrays"), (57, .class_ 76), (1, u "java/util/Arrays$NaturalOrder"), (32, u "()Ljava/lang/Object;"), (3, .class_ 115), (1, u "java/util/Arrays$LegacyMergeSort"), (1, u "Z"), (10, .nameAndType 129 109), (0, u "clone"), (9, u "copyOfRange"), (10, .methodref 151 152), (0, .class_ 153), (0, .nameAndType 154 155), (0, u "java/lang/System"), (0, u "arraycopy"), (0, u "(Ljava/lang/Object;ILjava/lang/Object;II)V"), (148, .methodref 305 306), (0, .class_ 307), (0, .nameAndType 308 309), (0, u "java/lang/Math"), (0, u "min"), (0, u "(II)I"), (0, .methodref 311 128), (0, .class_ 312), (0, u "[B"), (26, .methodref 14 340), (0, .nameAndType 341 342), (0, u "copyOfRangeByte"), (0, u "([BII)[B"), (0, .methodref 14 344), (0, .nameAndType 345 346), (0, u "checkLength"), (0, u "(II)V"), (28, .class_ 376), (0, u "java/util/Arrays$ArrayList"), (68, u "$assertionsDisabled"), (269, u "MIN_ARRAY_SORT_GRAN"), (0, u "I"), (2, u "INSERTIONSORT_THRESHOLD"), (255, .class_ 976), (0, u "java/util/Arrays$ArrayItr")] 52

def k3m0 : Method := { name := "<init>", desc := "()V", sig := { parameters := [], returnType := none }, accessFlags := 2, code := none }
def k3c1 : Code := { maxStack := 4, maxLocals := 2, code := jdk_65_method_131_code, exceptionTable := #[], attributes := #[] }
def k3m1 : Method := { name := "checkLength", desc := "(II)V", sig := { parameters := [.int, .int], returnType := none }, accessFlags := 10, code := some k3c1 }
def k3c2 : Code := { maxStack := 3, maxLocals := 3, code := jdk_65_method_132_code, exceptionTable := #[], attributes := #[] }
def k3m2 : Method := { name := "copyOfRange", desc := "([BII)[B", sig := { parameters := [(.array .byte), .int, .int], returnType := some (.array .byte) }, accessFlags := 9, code := some k3c2 }
def k3c3 : Code := { maxStack := 6, maxLocals := 5, code := jdk_65_method_133_code, exceptionTable := #[], attributes := #[] }
def k3m3 : Method := { name := "copyOfRangeByte", desc := "([BII)[B", sig := { parameters := [(.array .byte), .int, .int], returnType := some (.array .byte) }, accessFlags := 10, code := some k3c3 }
/-- java/util/Arrays -/
def k3 : Class := { plain "java/util/Arrays" (some 0) with
  accessFlags := 49
  interfaces := #[]
  cf := some (fileOf pool3 14 #[.nestMembers #[975, 375, 113, 74]] #[{ accessFlags := 2, nameIndex := 5, descriptorIndex := 6, attributes := #[] }, { accessFlags := 10, nameIndex := 345, descriptorIndex := 346, attributes := #[] }, { accessFlags := 9, nameIndex := 139, descriptorIndex := 342, attributes := #[] }, { accessFlags := 10, nameIndex := 341, descriptorIndex := 342, attributes := #[] }] 49 2 #[] #[{ accessFlags := 26, nameIndex := 715, descriptorIndex := 716, attributes := #[] }, { accessFlags := 26, nameIndex := 719, descriptorIndex := 716, attributes := #[] }, { accessFlags := 4120, nameIndex := 445, descriptorIndex := 117, attributes := #[] }])
  fields := #[{ name := "MIN_ARRAY_SORT_GRAN", type := .int, accessFlags := 26, slot := 0, constantValue := 0 }, { name := "INSERTIONSORT_THRESHOLD", type := .int, accessFlags := 26, slot := 1, constantValue := 0 }, { name := "$assertionsDisabled", type := .boolean, accessFlags := 4120, slot := 2, constantValue := 0 }]
  methods := #[k3m0, k3m1, k3m2, k3m3]
  instanceTypes := #[]
  staticTypes := #[.int, .int, .boolean]
  resolved := Array.replicate 1029 none
  statics := none }

def pool4 : Array CpInfo := pool [(1, .class_ 2), (0, u "java/lang/Cloneable"), (0, .class_ 4), (0, u "java/lang/Object")] 2

/-- java/lang/Cloneable -/
def k4 : Class := { plain "java/lang/Cloneable" (some 0) with
  accessFlags := 1537
  interfaces := #[]
  cf := some (fileOf pool4 1 #[] #[] 1537 3 #[] #[])
  fields := #[]
  methods := #[]
  instanceTypes := #[]
  staticTypes := #[]
  resolved := Array.replicate 7 none
  statics := none }

def pool5 : Array CpInfo := pool [(1, .class_ 2), (0, u "java/lang/Math"), (1, .class_ 6), (1, u "java/lang/Object"), (0, u "<init>"), (0, u "()V"), (89, .class_ 100), (1, u "java/lang/Math$RandomNumberGeneratorHolder"), (71, u "negativeZeroFloatBits"), (0, u "J"), (2, u "negativeZeroDoubleBits"), (24, u "min"), (43, u "$assertionsDisabled"), (0, u "Z"), (88, u "(II)I"), (2, u "twoToTheDoubleScaleDown"), (0, u "D"), (4, u "twoToTheDoubleScaleUp"), (9, u "E"), (3, u "PI"), (2, u "TAU"), (2, u "DEGREES_TO_RADIANS"), (0, u "RADIANS_TO_DEGREES")] 94

def k5m0 : Method := { name := "<init>", desc := "()V", sig := { parameters := [], returnType := none }, accessFlags := 2, code := none }
def k5c1 : Code := { maxStack := 2, maxLocals := 2, code := jdk_29_method_69_code, exceptionTable := #[], attributes := #[] }
def k5m1 : Method := { name := "min", desc := "(II)I", sig := { parameters := [.int, .int], returnType := some .int }, accessFlags := 9, code := some k5c1 }
/-- java/lang/Math -/
def k5 : Class := { plain "java/lang/Math" (some 0) with
  accessFlags := 49
  interfaces := #[]
  cf := some (fileOf pool5 1 #[.nestMembers #[98]] #[{ accessFlags := 2, nameIndex := 7, descriptorIndex := 8, attributes := #[] }, { accessFlags := 9, nameIndex := 201, descriptorIndex := 335, attributes := #[] }] 49 4 #[] #[{ accessFlags := 25, nameIndex := 354, descriptorIndex := 339, attributes := #[] }, { accessFlags := 25, nameIndex := 358, descriptorIndex := 339, attributes := #[] }, { accessFlags := 25, nameIndex := 361, descriptorIndex := 339, attributes := #[] }, { accessFlags := 26, nameIndex := 364, descriptorIndex := 339, attributes := #[] }, { accessFlags := 26, nameIndex := 365, descriptorIndex := 339, attributes := #[] }, { accessFlags := 26, nameIndex := 172, descriptorIndex := 173, attributes := #[] }, { accessFlags := 26, nameIndex := 176, descriptorIndex := 173, attributes := #[] }, { accessFlags := 8, nameIndex := 344, descriptorIndex := 339, attributes := #[] }, { accessFlags := 8, nameIndex := 338, descriptorIndex := 339, attributes := #[] }, { accessFlags := 4120, nameIndex := 245, descriptorIndex := 246, attributes := #[] }])
  fields := #[{ name := "E", type := .double, accessFlags := 25, slot := 0, constantValue := 0 }, { name := "PI", type := .double, accessFlags := 25, slot := 1, constantValue := 0 }, { name := "TAU", type := .double, accessFlags := 25, slot := 2, constantValue := 0 }, { name := "DEGREES_TO_RADIANS", type := .double, accessFlags := 26, slot := 3, constantValue := 0 }, { name := "RADIANS_TO_DEGREES", type := .double, accessFlags := 26, slot := 4, constantValue := 0 }, { name := "negativeZeroFloatBits", type := .long, accessFlags := 26, slot := 5, constantValue := 0 }, { name := "negativeZeroDoubleBits", type := .long, accessFlags := 26, slot := 6, constantValue := 0 }, { name := "twoToTheDoubleScaleUp", type := .double, accessFlags := 8, slot := 7, constantValue := 0 }, { name := "twoToTheDoubleScaleDown", type := .double, accessFlags := 8, slot := 8, constantValue := 0 }, { name := "$assertionsDisabled", type := .boolean, accessFlags := 4120, slot := 9, constantValue := 0 }]
  methods := #[k5m0, k5m1]
  instanceTypes := #[]
  staticTypes := #[.double, .double, .double, .double, .double, .long, .long, .double, .double, .boolean]
  resolved := Array.replicate 460 none
  statics := none }

def pool6 : Array CpInfo := pool [(2, .class_ 4), (1, u "java/lang/Object"), (0, u "<init>"), (0, u "()V"), (1, .class_ 10), (1, u "java/lang/System"), (0, u "allowSecurityManager"), (0, u "I"), (16, u "cons"), (0, u "Ljava/io/Console;"), (77, .class_ 110), (1, u "java/lang/System$CallersHolder"), (43, u "initialErrStream"), (0, u "Ljava/io/PrintStream;"), (19, u "security"), (0, u "Ljava/lang/SecurityManager;"), (31, .class_ 209), (0, u "java/lang/System$1"), (7, u "props"), (0, u "Ljava/util/Properties;"), (2, u "lineSeparator"), (0, u "Ljava/lang/String;"), (96, .class_ 321), (1, u "java/lang/System$LoggerFinder"), (5, .class_ 328), (0, u "java/lang/System$Logger"), (67, u "err"), (2, u "out"), (91, u "notSupportedJnuEncoding"), (15, u "in"), (17, u "initialIn"), (0, u "Ljava/io/InputStream;"), (35, u "bootLayer"), (0, u "Ljava/lang/ModuleLayer;"), (99, .class_ 664), (0, u "java/lang/System$2"), (9, u "NEVER"), (2, u "MAYBE"), (49, u "arraycopy"), (0, u "(Ljava/lang/Object;ILjava/lang/Object;II)V"), (72, .class_ 802), (0, u "java/lang/System$Logger$Level")] 31

def k6m0 : Method := { name := "<init>", desc := "()V", sig := { parameters := [], returnType := none }, accessFlags := 2, code := none }
def k6m1 : Method := { name := "arraycopy", desc := "(Ljava/lang/Object;ILjava/lang/Object;II)V", sig := { parameters := [(.object "java/lang/Object"), .int, (.object "java/lang/Object"), .int, .int], returnType := none }, accessFlags := 265, code := none }
/-- java/lang/System -/
def k6 : Class := { plain "java/lang/System" (some 0) with
  accessFlags := 49
  interfaces := #[]
  cf := some (fileOf pool6 8 #[.nestMembers #[319, 327, 801, 108, 663, 208]] #[{ accessFlags := 2, nameIndex := 5, descriptorIndex := 6, attributes := #[] }, { accessFlags := 265, nameIndex := 727, descriptorIndex := 728, attributes := #[] }] 49 2 #[] #[{ accessFlags := 25, nameIndex := 507, descriptorIndex := 526, attributes := #[] }, { accessFlags := 25, nameIndex := 399, descriptorIndex := 155, attributes := #[] }, { accessFlags := 25, nameIndex := 396, descriptorIndex := 155, attributes := #[] }, { accessFlags := 10, nameIndex := 525, descriptorIndex := 526, attributes := #[] }, { accessFlags := 26, nameIndex := 674, descriptorIndex := 12, attributes := #[] }, { accessFlags := 26, nameIndex := 677, descriptorIndex := 12, attributes := #[] }, { accessFlags := 10, nameIndex := 11, descriptorIndex := 12, attributes := #[] }, { accessFlags := 74, nameIndex := 175, descriptorIndex := 176, attributes := #[] }, { accessFlags := 10, nameIndex := 491, descriptorIndex := 222, attributes := #[] }, { accessFlags := 74, nameIndex := 29, descriptorIndex := 30, attributes := #[] }, { accessFlags := 74, nameIndex := 154, descriptorIndex := 155, attributes := #[] }, { accessFlags := 10, nameIndex := 217, descriptorIndex := 218, attributes := #[] }, { accessFlags := 10, nameIndex := 221, descriptorIndex := 222, attributes := #[] }, { accessFlags := 8, nameIndex := 562, descriptorIndex := 563, attributes := #[] }])
  fields := #[{ name := "in", type := (.object "java/io/InputStream"), accessFlags := 25, slot := 0, constantValue := 0 }, { name := "out", type := (.object "java/io/PrintStream"), accessFlags := 25, slot := 1, constantValue := 0 }, { name := "err", type := (.object "java/io/PrintStream"), accessFlags := 25, slot := 2, constantValue := 0 }, { name := "initialIn", type := (.object "java/io/InputStream"), accessFlags := 10, slot := 3, constantValue := 0 }, { name := "NEVER", type := .int, accessFlags := 26, slot := 4, constantValue := 0 }, { name := "MAYBE", type := .int, accessFlags := 26, slot := 5, constantValue := 0 }, { name := "allowSecurityManager", type := .int, accessFlags := 10, slot := 6, constantValue := 0 }, { name := "security", type := (.object "java/lang/SecurityManager"), accessFlags := 74, slot := 7, constantValue := 0 }, { name := "notSupportedJnuEncoding", type := (.object "java/lang/String"), accessFlags := 10, slot := 8, constantValue := 0 }, { name := "cons", type := (.object "java/io/Console"), accessFlags := 74, slot := 9, constantValue := 0 }, { name := "initialErrStream", type := (.object "java/io/PrintStream"), accessFlags := 74, slot := 10, constantValue := 0 }, { name := "props", type := (.object "java/util/Properties"), accessFlags := 10, slot := 11, constantValue := 0 }, { name := "lineSeparator", type := (.object "java/lang/String"), accessFlags := 10, slot := 12, constantValue := 0 }, { name := "bootLayer", type := (.object "java/lang/ModuleLayer"), accessFlags := 8, slot := 13, constantValue := 0 }]
  methods := #[k6m0, k6m1]
  instanceTypes := #[]
  staticTypes := #[(.object "java/io/InputStream"), (.object "java/io/PrintStream"), (.object "java/io/PrintStream"), (.object "java/io/InputStream"), .int, .int, .int, (.object "java/lang/SecurityManager"), (.object "java/lang/String"), (.object "java/io/Console"), (.object "java/io/PrintStream"), (.object "java/util/Properties"), (.object "java/lang/String"), (.object "java/lang/ModuleLayer")]
  resolved := Array.replicate 834 none
  statics := none }

def pool7 : Array CpInfo := pool [(1, u "java/io/Serializable"), (0, .class_ 1), (0, u "java/lang/Object"), (0, .class_ 3)] 3

/-- java/io/Serializable -/
def k7 : Class := { plain "java/io/Serializable" (some 0) with
  accessFlags := 1537
  interfaces := #[]
  cf := some (fileOf pool7 2 #[] #[] 1537 4 #[] #[])
  fields := #[]
  methods := #[]
  instanceTypes := #[]
  staticTypes := #[]
  resolved := Array.replicate 8 none
  statics := none }

/-- the primitive byte -/
def k8 : Class := { plain "byte" none with kind := .primitive 'B', accessFlags := 0x411 }
/-- [B -/
def k9 : Class := { plain "[B" (some 0) with kind := .array 8 .byte, interfaces := #[4, 7], accessFlags := 1041 }

/-- the primitive int -/
def k10 : Class := { plain "int" none with kind := .primitive 'I', accessFlags := 0x411 }
/-- [I -/
def k11 : Class := { plain "[I" (some 0) with kind := .array 10 .int, interfaces := #[4, 7], accessFlags := 1041 }

def heap : Heap := #[]
def classes : Array Class := #[k0, k1, k2, k3, k4, k5, k6, k7, k8, k9, k10, k11]
def interned : List (Array UInt16 × Addr) := []
def slotsUsed : Nat := 0
def theMethod : MethodId := ⟨1, 1⟩
def args0 : Array Value := #[.int 5, .int 300, .long 7]
def aboutOver (below : List Frame) : State where
  vm := { classes := classes, interned := interned.toArray }
  heap := heap
  slotsUsed := slotsUsed
  threads := #[{ frames := .invoking theMethod args0 :: below }]
def below0 : List Frame := [.native { method := ⟨0, 0⟩, args := #[] }]
def about1 : State := aboutOver below0
def p0 : Program := .bare "" "" ""
def e0 : Env := launch0.env 0 0 0
theorem w_frames : about1.frames = Frame.invoking theMethod args0 :: below0 := rfl
set_option maxRecDepth 65536 in
theorem w_args : argsFit about1.vm theMethod args0 = true := by decide +kernel
set_option maxRecDepth 65536 in
theorem w_heap : heapFits about1 = true := by decide +kernel
set_option maxRecDepth 65536 in
theorem w_runnable : about1.curStatus? = some .runnable := by decide +kernel
set_option maxRecDepth 65536 in
theorem w_alone : about1.alone = true := by decide +kernel
set_option maxRecDepth 65536 in
theorem w_named : about1.methodNamed? x = some theMethod := by decide +kernel
set_option maxRecDepth 65536 in
theorem w_hears : about1.hears theMethod below0 = true := by decide +kernel
set_option maxRecDepth 65536 in
theorem w_ripe : about1.ripe theMethod args0 below0 = true := by decide +kernel
theorem w_running : about1.status = .running := rfl
set_option maxRecDepth 65536 in
theorem w_room : about1.hasRoom e0.platform room_1 = true :=
  launch0.hasRoom_least _ room_1 (by decide +kernel) (by decide +kernel) (by decide +kernel) (by decide +kernel) (by decide +kernel) (by decide +kernel)
theorem allAtoms_all (ts : List Jvm.Cond) (a : Array Jvm.Value) (st : Jvm.State) : (allAtoms ts).before a st = ts.all (fun c => c.before a st) := by
  induction ts with
  | nil => rfl
  | cons c t ih =>
    show (Jvm.Cond.and c (allAtoms t)).before a st = _
    rw [Jvm.Cond.before_and, ih, List.all_cons]
def words1 : List Jvm.Cond := Jvm.Cond.code x code maxLocals ret :: tables_1
/-- a 'code' word, met by the world's own term for the bytes: nothing is compared byte by byte -/
theorem code_word {y : MethodName} {bytes : ByteArray} {mx : Nat} {rt : Option FieldType} {a : Array Value} {s : State} {m : MethodId} {meth : Method} {c : Code} (h1 : s.methodNamed? y = some m) (h2 : s.vm.method? m = some meth) (h3 : meth.code = some c) (h4 : c.code = bytes)
    (h5 : (c.maxLocals == mx && c.exceptionTable.isEmpty && decide (c.maxStack ≤ mostOperands) && decide (meth.sig.returnType = rt) && !meth.locks && decide (parseMethodDescriptor y.desc = some meth.sig)) = true) : (Jvm.Cond.code y bytes mx rt).before a s = true := by
  simp only [Bool.and_eq_true, beq_iff_eq, Bool.not_eq_true', decide_eq_true_eq] at h5
  obtain ⟨⟨⟨⟨⟨g1, g2⟩, g3⟩, g4⟩, g5⟩, g6⟩ := h5
  simp [Cond.before, Cond.holds, Cond.value, h1, h2, h3, h4, g1, g2, g3, g4, g5, g6]
def isCode : Jvm.Cond → Bool
  | .code _ _ _ _ => true
  | _ => false
theorem all_split {L : List Jvm.Cond} {P : Jvm.Cond → Bool} (h1 : L.all (fun c => isCode c || P c) = true) (h2 : ∀ c ∈ L.filter isCode, P c = true) : L.all P = true := by
  refine List.all_eq_true.mpr fun c hc => ?_
  have h := List.all_eq_true.mp h1 c hc
  rcases Bool.eq_false_or_eq_true (isCode c) with hi | hi
  · exact h2 c (List.mem_filter.mpr ⟨hc, hi⟩)
  · simpa [hi] using h
set_option maxRecDepth 65536 in
theorem w_c0 : (Jvm.Cond.code x code maxLocals ret).before args0 about1 = true := code_word (m := ⟨1, 1⟩) (meth := k1m1) (c := k1c1) (by decide +kernel) rfl rfl rfl (by decide +kernel)
set_option maxRecDepth 65536 in
theorem w_c1 : (Jvm.Cond.code ({ cls := "com/example/hazusu/hazusu/StateBytes$Reader", name := "<init>", desc := "([B)V" } : Jvm.MethodName) prog_29_method_1_code (2 : Nat) (Option.none : Option Jvm.ClassFile.FieldType)).before args0 about1 = true := code_word (m := ⟨2, 0⟩) (meth := k2m0) (c := k2c0) (by decide +kernel) rfl rfl rfl (by decide +kernel)
set_option maxRecDepth 65536 in
theorem w_c2 : (Jvm.Cond.code ({ cls := "java/lang/Object", name := "<init>", desc := "()V" } : Jvm.MethodName) object_method_1_code (1 : Nat) (Option.none : Option Jvm.ClassFile.FieldType)).before args0 about1 = true := code_word (m := ⟨0, 0⟩) (meth := k0m0) (c := k0c0) (by decide +kernel) rfl rfl rfl (by decide +kernel)
set_option maxRecDepth 65536 in
theorem w_c3 : (Jvm.Cond.code ({ cls := "com/example/hazusu/hazusu/StateBytes$Reader", name := "atEnd", desc := "()Z" } : Jvm.MethodName) prog_29_method_9_code (1 : Nat) (Option.some Jvm.ClassFile.FieldType.boolean)).before args0 about1 = true := code_word (m := ⟨2, 3⟩) (meth := k2m3) (c := k2c3) (by decide +kernel) rfl rfl rfl (by decide +kernel)
set_option maxRecDepth 65536 in
theorem w_c4 : (Jvm.Cond.code ({ cls := "com/example/hazusu/hazusu/StateBytes$Reader", name := "readBytes", desc := "(J)[B" } : Jvm.MethodName) prog_29_method_3_code (4 : Nat) (Option.some (Jvm.ClassFile.FieldType.array Jvm.ClassFile.FieldType.byte))).before args0 about1 = true := code_word (m := ⟨2, 2⟩) (meth := k2m2) (c := k2c2) (by decide +kernel) rfl rfl rfl (by decide +kernel)
set_option maxRecDepth 65536 in
theorem w_c5 : (Jvm.Cond.code ({ cls := "java/util/Arrays", name := "copyOfRange", desc := "([BII)[B" } : Jvm.MethodName) jdk_65_method_132_code (3 : Nat) (Option.some (Jvm.ClassFile.FieldType.array Jvm.ClassFile.FieldType.byte))).before args0 about1 = true := code_word (m := ⟨3, 2⟩) (meth := k3m2) (c := k3c2) (by decide +kernel) rfl rfl rfl (by decide +kernel)
set_option maxRecDepth 65536 in
theorem w_c6 : (Jvm.Cond.code ({ cls := "java/util/Arrays", name := "copyOfRangeByte", desc := "([BII)[B" } : Jvm.MethodName) jdk_65_method_133_code (5 : Nat) (Option.some (Jvm.ClassFile.FieldType.array Jvm.ClassFile.FieldType.byte))).before args0 about1 = true := code_word (m := ⟨3, 3⟩) (meth := k3m3) (c := k3c3) (by decide +kernel) rfl rfl rfl (by decide +kernel)
set_option maxRecDepth 65536 in
theorem w_c7 : (Jvm.Cond.code ({ cls := "java/util/Arrays", name := "checkLength", desc := "(II)V" } : Jvm.MethodName) jdk_65_method_131_code (2 : Nat) (Option.none : Option Jvm.ClassFile.FieldType)).before args0 about1 = true := code_word (m := ⟨3, 1⟩) (meth := k3m1) (c := k3c1) (by decide +kernel) rfl rfl rfl (by decide +kernel)
set_option maxRecDepth 65536 in
theorem w_c8 : (Jvm.Cond.code ({ cls := "java/lang/Math", name := "min", desc := "(II)I" } : Jvm.MethodName) jdk_29_method_69_code (2 : Nat) (Option.some Jvm.ClassFile.FieldType.int)).before args0 about1 = true := code_word (m := ⟨5, 1⟩) (meth := k5m1) (c := k5c1) (by decide +kernel) rfl rfl rfl (by decide +kernel)
set_option maxRecDepth 65536 in
theorem w_c9 : (Jvm.Cond.code ({ cls := "com/example/hazusu/hazusu/StateBytes$Reader", name := "readByte", desc := "()I" } : Jvm.MethodName) prog_29_method_2_code (1 : Nat) (Option.some Jvm.ClassFile.FieldType.int)).before args0 about1 = true := code_word (m := ⟨2, 1⟩) (meth := k2m1) (c := k2c1) (by decide +kernel) rfl rfl rfl (by decide +kernel)
def codes1 : List Jvm.Cond := [Jvm.Cond.code x code maxLocals ret, Jvm.Cond.code ({ cls := "com/example/hazusu/hazusu/StateBytes$Reader", name := "<init>", desc := "([B)V" } : Jvm.MethodName) prog_29_method_1_code (2 : Nat) (Option.none : Option Jvm.ClassFile.FieldType), Jvm.Cond.code ({ cls := "java/lang/Object", name := "<init>", desc := "()V" } : Jvm.MethodName) object_method_1_code (1 : Nat) (Option.none : Option Jvm.ClassFile.FieldType), Jvm.Cond.code ({ cls := "com/example/hazusu/hazusu/StateBytes$Reader", name := "atEnd", desc := "()Z" } : Jvm.MethodName) prog_29_method_9_code (1 : Nat) (Option.some Jvm.ClassFile.FieldType.boolean), Jvm.Cond.code ({ cls := "com/example/hazusu/hazusu/StateBytes$Reader", name := "readBytes", desc := "(J)[B" } : Jvm.MethodName) prog_29_method_3_code (4 : Nat) (Option.some (Jvm.ClassFile.FieldType.array Jvm.ClassFile.FieldType.byte)), Jvm.Cond.code ({ cls := "java/util/Arrays", name := "copyOfRange", desc := "([BII)[B" } : Jvm.MethodName) jdk_65_method_132_code (3 : Nat) (Option.some (Jvm.ClassFile.FieldType.array Jvm.ClassFile.FieldType.byte)), Jvm.Cond.code ({ cls := "java/util/Arrays", name := "copyOfRangeByte", desc := "([BII)[B" } : Jvm.MethodName) jdk_65_method_133_code (5 : Nat) (Option.some (Jvm.ClassFile.FieldType.array Jvm.ClassFile.FieldType.byte)), Jvm.Cond.code ({ cls := "java/util/Arrays", name := "checkLength", desc := "(II)V" } : Jvm.MethodName) jdk_65_method_131_code (2 : Nat) (Option.none : Option Jvm.ClassFile.FieldType), Jvm.Cond.code ({ cls := "java/lang/Math", name := "min", desc := "(II)I" } : Jvm.MethodName) jdk_29_method_69_code (2 : Nat) (Option.some Jvm.ClassFile.FieldType.int), Jvm.Cond.code ({ cls := "com/example/hazusu/hazusu/StateBytes$Reader", name := "readByte", desc := "()I" } : Jvm.MethodName) prog_29_method_2_code (1 : Nat) (Option.some Jvm.ClassFile.FieldType.int)]
set_option maxRecDepth 65536 in
theorem codes_eq : words1.filter isCode = codes1 := rfl
theorem w_codes : ∀ c ∈ words1.filter isCode, c.before args0 about1 = true := by
  rw [codes_eq]
  intro c hc
  simp only [codes1, List.mem_cons, List.not_mem_nil, or_false] at hc
  rcases hc with rfl | rfl | rfl | rfl | rfl | rfl | rfl | rfl | rfl | rfl
  · exact w_c0
  · exact w_c1
  · exact w_c2
  · exact w_c3
  · exact w_c4
  · exact w_c5
  · exact w_c6
  · exact w_c7
  · exact w_c8
  · exact w_c9
set_option maxRecDepth 65536 in
theorem w_t1 : (words1.take 24).all (fun c => isCode c || c.before args0 about1) = true := by decide +kernel
set_option maxRecDepth 65536 in
theorem w_t2 : ((words1.drop 24).take 24).all (fun c => isCode c || c.before args0 about1) = true := by decide +kernel
set_option maxRecDepth 65536 in
theorem w_t3 : ((words1.drop 24).drop 24).all (fun c => isCode c || c.before args0 about1) = true := by decide +kernel
theorem w_tables : (allAtoms (Jvm.Cond.code x code maxLocals ret :: tables_1)).before args0 about1 = true := by
  rw [allAtoms_all]
  show words1.all (fun c => c.before args0 about1) = true
  refine all_split ?_ w_codes
  rw [← List.take_append_drop 24 words1, List.all_append, w_t1, ← List.take_append_drop 24 (words1.drop 24), List.all_append, w_t2, w_t3]
  rfl
set_option maxRecDepth 65536 in
theorem w_case : (Jvm.Cond.and given_1 narrow_1).before args0 about1 = true := by decide +kernel
theorem w_applies : (headSpec (Jvm.Cond.code x code maxLocals ret :: tables_1) room_1).applies x e0.platform about1 = true :=
  (Spec.applies_iff w_frames).mpr ⟨w_running, w_runnable, w_alone, w_named, w_hears, w_ripe, w_room, w_tables⟩
theorem atStart : AtStart classFile x code maxLocals ret World_1 tables_1 room_1 Calls_1 rest_1 Pre_1 launch0 p0 e0 about1 theMethod args0 below0 :=
  ⟨lists_1, trivial, launch0.admits_env _ _ _, launch0.least_env, fairChoices_fair.cas, fairChoices_fair.clock, w_frames, w_args, w_heap, w_applies, trivial, trivial, w_case⟩
end start1
theorem witness_1 : WitnessClaimed_1 := ⟨start1.p0, start1.e0, start1.about1, start1.theMethod, start1.args0, start1.below0, start1.atStart⟩
end Jvm.Pilot.@@N@@
