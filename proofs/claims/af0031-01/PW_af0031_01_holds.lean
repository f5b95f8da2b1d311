import PyProof.Rows.All
import Wide.All
import OpenK.AllK
import Wide.FinOn
import Lean
import PySem.Challenge.RW_af0031_01
set_option Elab.async false

section
open PySem PySem.W PySem.Calls PyProof.Rows
set_option Elab.async false
set_option maxRecDepth 100000
namespace Mine
noncomputable section

abbrev P0 : Program := PySem.Challenge.pw_af0031_01
abbrev AN : Option Value := some (.ref 6)

def mkT (l : List Obj) : BT := (l.foldl (fun (acc : BT × Nat) o => (acc.1.ins acc.2 o, acc.2 + 1)) (BT.nil, 0)).1

def goT (tb : String → Option Builtin) (p : Program) (w : World) (n₀ : Nat) (ann : Option Value) : Nat → SharedT → Thread → Option (SharedT × Thread)
  | 0, s, t => some (s, t)
  | n + 1, s, t => match through t with
    | true => none
    | false => match stepOk n₀ ann t with
      | false => none
      | true => match stepT (denote tb) p w s t with
        | some (s', t') => goT tb p w n₀ ann n s' t'
        | none => none

theorem goT_of {tb : String → Option Builtin} {p : Program} {w : World} {n₀ : Nat} {ann : Option Value} : ∀ {n : Nat} {s s' : SharedT} {t t' : Thread},
    goT tb p w n₀ ann n s t = some (s', t') → topGo tb p w n₀ ann n s.abs t = some (s'.abs, t')
  | 0, _, _, _, _, h => by cases h; rfl
  | n + 1, s, s', t, t', h => by
    unfold goT at h
    unfold topGo
    cases ht : through t with
    | true => rw [ht] at h; cases h
    | false =>
      rw [ht] at h
      cases hk : stepOk n₀ ann t with
      | false => rw [hk] at h; cases h
      | true =>
        rw [hk] at h
        cases hs : stepT (denote tb) p w s t with
        | none => rw [hs] at h; cases h
        | some r => obtain ⟨s₂, t₂⟩ := r; rw [hs] at h; rw [stepT_spec hs]; exact goT_of h

/-- the first twelve steps, on the booted heap -/
def r0 (w : World) (os : OsState) : Option (Shared × Thread) :=
  topGo treeTable P0 w 11 AN 12 ⟨boot_heap w.params, Array.mk [], boot_drawn, boot_toks, os⟩ (topStub P0)
def x0 (w : World) (os : OsState) : Shared × Thread := (r0 w os).getD (⟨{}, #[], {}, 0, os⟩, topStub P0)
def S1 (w : World) (os : OsState) : SharedT := ⟨mkT (x0 w os).1.heap.objs.toList, 15, (x0 w os).1.heap.life, (x0 w os).1.gens, (x0 w os).1.drawn, (x0 w os).1.toks, os⟩
def T1 (w : World) (os : OsState) : Thread := (x0 w os).2

def c0 (w : World) (os : OsState) : Option Shared := (r0 w os).map (·.1)
def c0' (w : World) (os : OsState) : Option Shared := some (S1 w os).abs
theorem goT_self : @goT = @goT := rfl
theorem S1_self : S1 = S1 := rfl
theorem T1_self : T1 = T1 := rfl
theorem c0_self : c0 = c0 := rfl
theorem c0'_self : c0' = c0' := rfl
name_quick mineC0 for Mine.c0 by Mine.c0_self
name_quick mineC0' for Mine.c0' by Mine.c0'_self

theorem k0 : ∀ w os, PySem.W.Fast.mineC0 w os = PySem.W.Fast.mineC0' w os := fun w os => by kernel_rfl
end
end Mine
end

section
open PySem PySem.W PySem.Calls PyProof.Rows
set_option Elab.async false
set_option maxRecDepth 100000
namespace Mine
noncomputable section

def clsBody : List Stmt := match P0.main.body.drop 6 with
  | .ClassDef _ _ _ b _ _ _ _ _ _ _ :: _ => b
  | _ => []
def clsScope : Scope := match P0.main.body.drop 6 with
  | .ClassDef _ _ _ _ _ _ sc _ _ _ _ :: _ => sc
  | _ => default
def cenv : Env := { scope := clsScope, locals := 227, globals := mainGlobals, cells := [], qual := "PorterStemmer.", func := none, code := .ref 230, frame := some 231, builtins := builtinsNs }

def r2 (w : World) (os : OsState) : Option (SharedT × Thread) := goT treeTable P0 w 11 AN 1322 (S1 w os) (T1 w os)
def x2 (w : World) (os : OsState) : SharedT × Thread := (r2 w os).getD (S1 w os, T1 w os)
def S2 (w : World) (os : OsState) : SharedT := (x2 w os).1
def FA (w : World) (os : OsState) : Frame := (x2 w os).2.stack.headD (topFrame default)
def pos2 (w : World) (os : OsState) : Pos := (x2 w os).2.pos
def bodyT (w : World) (os : OsState) : Thread := ⟨denote treeTable (.body clsBody cenv), .body clsBody cenv, pos2 w os, [FA w os, topFrame default]⟩
def c2 (w : World) (os : OsState) : Option Thread := (r2 w os).map (·.2)
def c2' (w : World) (os : OsState) : Option Thread := some (bodyT w os)
theorem c2_self : c2 = c2 := rfl
theorem c2'_self : c2' = c2' := rfl
name_quick mineC2 for Mine.c2 by Mine.c2_self
name_quick mineC2' for Mine.c2' by Mine.c2'_self

theorem k2 : ∀ w os, PySem.W.Fast.mineC2 w os = PySem.W.Fast.mineC2' w os := fun w os => by kernel_rfl
end
end Mine
end

section
open PySem PySem.W PySem.Calls PyProof.Rows
set_option Elab.async false
set_option maxRecDepth 100000
namespace Mine

section
variable {tb : String → Option Builtin} {p : Program} {w : World} {n₀ : Nat} {ann : Option Value}

theorem goT_add : ∀ {n m : Nat} {s s' s'' : SharedT} {t t' t'' : Thread}, goT tb p w n₀ ann n s t = some (s', t') → goT tb p w n₀ ann m s' t' = some (s'', t'') → goT tb p w n₀ ann (n + m) s t = some (s'', t'')
  | 0, m, s, s', s'', t, t', t'', h, k => by
    cases h; rw [Nat.zero_add]; exact k
  | n + 1, m, s, s', s'', t, t', t'', h, k => by
    rw [show n + 1 + m = n + m + 1 by omega]
    unfold goT at h ⊢
    cases ht : through t with
    | true => rw [ht] at h; cases h
    | false =>
      rw [ht] at h
      cases hk : stepOk n₀ ann t with
      | false => rw [hk] at h; cases h
      | true =>
        rw [hk] at h
        cases hs : stepT (denote tb) p w s t with
        | none => rw [hs] at h; cases h
        | some r => obtain ⟨s₂, t₂⟩ := r; rw [hs] at h; exact goT_add h k

/-- the tree m runs from S to its value a and the state S', in at most k steps, whatever stands behind it -/
def Rn (tb : String → Option Builtin) (p : Program) (w : World) (n₀ : Nat) (ann : Option Value) {α : Type} (k : Nat) (m : Sem α) (S : SharedT) (a : α) (S' : SharedT) : Prop :=
  ∃ n, n ≤ k ∧ ∀ (K : α → Sem Fin) (H : Value → Sem Fin) (gd : Bool → Bool) (lv : List Value → List Value) (b : List Stmt) (e : Env) (pos : Pos) (f g : Frame),
    ∃ pos', goT tb p w n₀ ann n S ⟨m.wrap K H gd lv, .body b e, pos, [f, g]⟩ = some (S', ⟨K a, .body b e, pos', [f, g]⟩)

theorem Rn.mono {α : Type} {k k' : Nat} {m : Sem α} {S S' : SharedT} {a : α} (h : Rn tb p w n₀ ann k m S a S') (l : k ≤ k') : Rn tb p w n₀ ann k' m S a S' :=
  let ⟨n, hn, x⟩ := h; ⟨n, Nat.le_trans hn l, x⟩
theorem Rn.pure {α : Type} {S : SharedT} (a : α) : Rn tb p w n₀ ann 0 (Pure.pure a : Sem α) S a S := ⟨0, Nat.le_refl _, fun _ _ _ _ _ _ pos _ _ => ⟨pos, rfl⟩⟩
theorem bind_wrap {α β γ : Type} (m : Sem α) (f : α → Sem β) (K : β → Sem γ) (H : Value → Sem γ) (gd : Bool → Bool) (lv : List Value → List Value) :
    (m >>= f).wrap K H gd lv = m.wrap (fun a => (f a).wrap K H gd lv) H gd lv := by
  rw [Sem.bind_eq_wrap', Sem.wrap_wrap]; rfl
theorem Rn.bind {α β : Type} {k l : Nat} {m : Sem α} {f : α → Sem β} {S S' S'' : SharedT} {a : α} {b : β} (h : Rn tb p w n₀ ann k m S a S') (h' : Rn tb p w n₀ ann l (f a) S' b S'') : Rn tb p w n₀ ann (k + l) (m >>= f) S b S'' := by
  obtain ⟨n, hn, x⟩ := h
  obtain ⟨n', hn', x'⟩ := h'
  refine ⟨n + n', Nat.add_le_add hn hn', fun K H gd lv b e pos fr gr => ?_⟩
  rw [bind_wrap]
  obtain ⟨p1, e1⟩ := x (fun a => (f a).wrap K H gd lv) H gd lv b e pos fr gr
  obtain ⟨p2, e2⟩ := x' K H gd lv b e p1 fr gr
  exact ⟨p2, goT_add e1 e2⟩
theorem Rn.rule {tag : String} {S : SharedT} : Rn tb p w n₀ ann 1 (PySem.rule tag) S () S := ⟨1, Nat.le_refl _, fun _ _ _ _ _ _ pos _ _ => ⟨pos, rfl⟩⟩
theorem Rn.at {q : Pos} {S : SharedT} : Rn tb p w n₀ ann 1 (standAt q) S () S := ⟨1, Nat.le_refl _, fun _ _ _ _ _ _ pos _ _ => ⟨_, rfl⟩⟩
theorem Rn.ask {S : SharedT} : Rn tb p w n₀ ann 1 PySem.ask S ⟨p, w.params⟩ S := ⟨1, Nat.le_refl _, fun _ _ _ _ _ _ pos _ _ => ⟨pos, rfl⟩⟩
theorem Rn.fresh {S : SharedT} : Rn tb p w n₀ ann 1 PySem.fresh S S.toks { S with toks := S.toks + 1 } := ⟨1, Nat.le_refl _, fun _ _ _ _ _ _ pos _ _ => ⟨pos, rfl⟩⟩
theorem Rn.load {S : SharedT} {a : Addr} {o o' : Obj} (h1 : Nat.blt a S.n = true) (h2 : S.tree.get a = some o) (h3 : alive o = some o') : Rn tb p w n₀ ann 1 (PySem.load a) S o' S :=
  ⟨1, Nat.le_refl _, fun K H gd lv b e pos f g => ⟨pos, by
    obtain ⟨T, n, life, gens, drawn, toks, os⟩ := S
    dsimp only at h1 h2
    show (match stepT (denote tb) p w ⟨T, n, life, gens, drawn, toks, os⟩ ⟨.load a none (fun x => K x), .body b e, pos, [f, g]⟩ with | some (s', t') => goT tb p w n₀ ann 0 s' t' | none => none) = _
    simp only [stepT, h1, h2, h3, goT]⟩⟩
theorem Rn.update {S : SharedT} {a : Addr} {fn : Obj → Obj} {o o' : Obj} (h0 : Nat.ble n₀ a = true) (h1 : Nat.blt a S.n = true) (h2 : S.tree.get a = some o) (h3 : alive o = some o') :
    Rn tb p w n₀ ann 1 (PySem.update a fn) S () { S with tree := S.tree.set a fn } :=
  ⟨1, Nat.le_refl _, fun K H gd lv b e pos f g => ⟨pos, by
    obtain ⟨T, n, life, gens, drawn, toks, os⟩ := S
    dsimp only at h1 h2
    have hk : stepOk n₀ ann ⟨.update a none fn (fun x => K x), .body b e, pos, [f, g]⟩ = true := by
      show (true && (Nat.ble n₀ a || a == mainNs || a == cStatics || ann == some (.ref a))) = true
      rw [h0]; rfl
    show (match stepOk n₀ ann ⟨.update a none fn (fun x => K x), .body b e, pos, [f, g]⟩ with
      | false => none
      | true => match stepT (denote tb) p w ⟨T, n, life, gens, drawn, toks, os⟩ ⟨.update a none fn (fun x => K x), .body b e, pos, [f, g]⟩ with | some (s', t') => goT tb p w n₀ ann 0 s' t' | none => none) = _
    rw [hk]
    simp only [stepT, h1, h2, h3, goT]⟩⟩
theorem Rn.alloc {S : SharedT} {o : Obj} (h : ((S.tree.ins S.n o).get S.n).isSome = true) : Rn tb p w n₀ ann 1 (PySem.alloc o) S S.n { S with tree := S.tree.ins S.n o, n := S.n + 1 } :=
  ⟨1, Nat.le_refl _, fun K H gd lv b e pos f g => ⟨pos, by
    obtain ⟨T, n, life, gens, drawn, toks, os⟩ := S
    dsimp only at h
    show (match stepT (denote tb) p w ⟨T, n, life, gens, drawn, toks, os⟩ ⟨.alloc o (fun x => K x), .body b e, pos, [f, g]⟩ with | some (s', t') => goT tb p w n₀ ann 0 s' t' | none => none) = _
    simp only [stepT, h, goT]⟩⟩

/-- the state S with one object more, a set of the data D -/
def St (S : SharedT) (D : Data) (tk : Nat) : SharedT := ⟨S.tree.ins S.n ⟨.type "set", none, D, #[]⟩, S.n + 1, S.life, S.gens, S.drawn, tk, S.os⟩
def Room (S : SharedT) : Prop := ∀ o, ((S.tree.ins S.n o).get S.n).isSome = true
theorem St_get {S : SharedT} (h : Room S) (D : Data) (tk : Nat) : (St S D tk).tree.get S.n = some ⟨.type "set", none, D, #[]⟩ := by
  show (S.tree.ins S.n _).get S.n = _
  rw [BT.get_ins _ _ _ (h _), if_pos rfl]
theorem St_lt {S : SharedT} (D : Data) (tk : Nat) : Nat.blt S.n (St S D tk).n = true := Nat.ble_eq.mpr (Nat.lt_succ_self _)
theorem set_ins (f : Obj → Obj) (o : Obj) : ∀ (T : BT) (n : Nat), ((T.ins n o).get n).isSome = true → (T.ins n o).set n f = T.ins n (f o)
  | .nil, n, h => by
    show (BT.node o .nil .nil).set n f = .node (f o) .nil .nil
    have h : ((BT.node o .nil .nil).get n).isSome = true := h
    rw [BT.get_node] at h
    rw [BT.set_node]
    by_cases e : n = 0
    · rw [if_pos e]
    · rw [if_neg e] at h
      by_cases q : n % 2 = 1
      · rw [if_pos q] at h; cases h
      · rw [if_neg q] at h; cases h
  | .node v l r, n, h => by
    rw [BT.ins_node] at h ⊢
    rw [BT.ins_node]
    by_cases e : n = 0
    · rw [if_pos e, if_pos e, BT.set_node, if_pos e]
    · rw [if_neg e] at h ⊢
      rw [if_neg e]
      by_cases q : n % 2 = 1
      · rw [if_pos q] at h ⊢
        rw [if_pos q, BT.set_node, if_neg e, if_pos q]
        rw [BT.get_node, if_neg e, if_pos q] at h
        rw [set_ins f o l _ h]
      · rw [if_neg q] at h ⊢
        rw [if_neg q, BT.set_node, if_neg e, if_neg q]
        rw [BT.get_node, if_neg e, if_neg q] at h
        rw [set_ins f o r _ h]
end
end Mine
end

section
open PySem PySem.W PySem.Calls PyProof.Rows
set_option Elab.async false
set_option linter.unusedVariables false
set_option maxRecDepth 100000
namespace Mine
noncomputable section
def hL (w : World) (S : SharedT) (x : Str) (t : Tok) (K : Int → Sem Fin) (H : Value → Sem Fin) (gd : Bool → Bool) (lv : List Value → List Value) (b : List Stmt) (e : Env) (pos : Pos) (f g : Frame) : Option (SharedT × Thread) :=
  goT treeTable P0 w 11 AN 7 S ⟨(pyHash (.str x t)).wrap K H gd lv, .body b e, pos, [f, g]⟩
def hR (w : World) (S : SharedT) (x : Str) (t : Tok) (K : Int → Sem Fin) (H : Value → Sem Fin) (gd : Bool → Bool) (lv : List Value → List Value) (b : List Stmt) (e : Env) (pos : Pos) (f g : Frame) : Option (SharedT × Thread) :=
  some ({ S with toks := S.toks + 1 }, ⟨K (hashStr w x), .body b e, pos, [f, g]⟩)
theorem hL_self : @hL = @hL := rfl
name_quick mineHL for Mine.hL by Mine.hL_self

theorem khF (w : World) (S x t K H gd lv b e pos f g) : PySem.W.Fast.mineHL (w.withFollow "special-get-raises" false) S x t K H gd lv b e pos f g = hR (w.withFollow "special-get-raises" false) S x t K H gd lv b e pos f g := by kernel_rfl
theorem khT (w : World) (S x t K H gd lv b e pos f g) : PySem.W.Fast.mineHL (w.withFollow "special-get-raises" true) S x t K H gd lv b e pos f g = hR (w.withFollow "special-get-raises" true) S x t K H gd lv b e pos f g := by kernel_rfl
theorem kh (w S x t K H gd lv b e pos f g) : hL w S x t K H gd lv b e pos f g = hR w S x t K H gd lv b e pos f g := by
  rw [PySem.W.Fast.mineHL_eq]
  exact byRow2 "special-get-raises" (P := fun w => PySem.W.Fast.mineHL w S x t K H gd lv b e pos f g = hR w S x t K H gd lv b e pos f g) (fun w => khF w S x t K H gd lv b e pos f g) (fun w => khT w S x t K H gd lv b e pos f g) w
theorem Rn.pyHash (w : World) (S : SharedT) (x : Str) (t : Tok) : Rn treeTable P0 w 11 AN 7 (PySem.pyHash (.str x t)) S (hashStr w x) { S with toks := S.toks + 1 } :=
  ⟨7, Nat.le_refl _, fun K H gd lv b e pos f g => ⟨pos, kh w S x t K H gd lv b e pos f g⟩⟩
end
end Mine
end

section
open PySem PySem.W PySem.Calls PyProof.Rows
set_option Elab.async false
set_option maxRecDepth 100000
set_option linter.unusedVariables false
namespace Mine

structure SetD (w : World) (D : Data) (X : Str → Bool) (n : Nat) : Prop where
  is : ∃ es ep t, D = .set es ep t ∧ ElemsOf (strKind P0 w) es.toList ∧ (∀ k, X k = true ↔ ∃ e ∈ es.toList, (strKind P0 w).is k e.2 = true) ∧ es.size < scanBound ∧ t.fits es.size = true ∧ es.size = n

section
variable {w : World} {S : SharedT}

theorem Rn.setState {D : Data} {es : Array (Int × Value)} {ep : Nat} {t : SetTable} {tk : Nat} (hS : Room S) (hD : D = .set es ep t) (hf : t.fits es.size = true) :
    Rn treeTable P0 w 11 AN 1 (setState S.n) (St S D tk) (es, ep, t) (St S D tk) := by
  unfold PySem.setState
  subst hD
  refine Rn.bind (l := 0) (Rn.load (St_lt _ _) (St_get hS _ _) rfl) ?_
  dsimp only
  have hc : (t.place.size != es.size || decide (t.fill > t.mask)) = false := by
    simp only [SetTable.fits, Bool.and_eq_true, beq_iff_eq, decide_eq_true_eq] at hf
    simp [hf.1, Nat.not_lt.mpr hf.2]
  rw [hc]
  simp only [Bool.false_eq_true, ↓reduceIte]
  exact Rn.pure _

theorem Rn.storeSet {D : Data} {es es' : Array (Int × Value)} {ep : Nat} {t t' : SetTable} {tk : Nat} (hS : Room S) (hn : Nat.ble 11 S.n = true) (hD : D = .set es ep t) (hz : es'.size ≤ sizeLine) :
    Rn treeTable P0 w 11 AN 2 (storeSet S.n es' t') (St S D tk) () (St S (.set es' (ep + 1) t') tk) := by
  unfold PySem.storeSet
  subst hD
  refine Rn.bind (l := 1) (Rn.load (St_lt _ _) (St_get hS _ _) rfl) ?_
  dsimp only
  rw [if_neg (Nat.not_lt.mpr hz)]
  have h := Rn.update (tb := treeTable) (p := P0) (w := w) (ann := AN) (fn := Obj.putSet es' t') hn (St_lt (S := S) (.set es ep t) tk) (St_get hS (.set es ep t) tk) rfl
  have e : { St S (.set es ep t) tk with tree := (St S (.set es ep t) tk).tree.set S.n (Obj.putSet es' t') } = St S (.set es' (ep + 1) t') tk := by
    show SharedT.mk ((S.tree.ins S.n _).set S.n _) _ _ _ _ _ _ = SharedT.mk (S.tree.ins S.n _) _ _ _ _ _ _
    rw [set_ins _ _ _ _ (hS _)]
    rfl
  rw [e] at h
  exact h

theorem Rn.rel {α : Type} {m : Sem α} {k : Nat} {S₁ S₂ S₃ : SharedT} {a : α} (h : Rn treeTable P0 w 11 AN k m S₁ a S₂) (e : S₂ = S₃) : Rn treeTable P0 w 11 AN k m S₁ a S₃ := e ▸ h

theorem setAdd_Rn {D : Data} {X : Str → Bool} {n tk : Nat} {x : Str} {t : Tok} (hS : Room S) (hn : Nat.ble 11 S.n = true) (h : SetD w D X n) (hx : X x = false) (hr : n + 1 < scanBound) :
    ∃ D', SetD w D' (fun k => X k || decide (k = x)) (n + 1) ∧ Rn treeTable P0 w 11 AN 40 (setAdd S.n (.str x t)) (St S D tk) true (St S D' (tk + 1)) := by
  obtain ⟨es, ep, tb, hD, hel, hmem, hb, hf, hsz⟩ := h.is
  have hkey : (strKind P0 w).is x (.str x t) = true := strKind_is P0 w x t
  -- the new entries
  have hperm := layNew_perm tb es (hashStr w x) (.str x t)
  have hfits := layNew_fits tb es (hashStr w x) (.str x t)
  have hnone : es.findIdx? (fun e => e.2.isStr x) = none := by
    have : es.toList.findIdx? (fun e => e.2.isStr x) = none := by
      refine List.findIdx?_eq_none_iff.mpr fun e he => ?_
      have hh : (e.2.isStr x) = (strKind P0 w).is x e.2 := ((strKind P0 w).strs x x t e.2 hkey).symm
      rw [hh]
      cases q : (strKind P0 w).is x e.2 with
      | false => rfl
      | true => rw [(hmem x).mpr ⟨e, he, q⟩] at hx; cases hx
    cases es; simpa using this
  have hall : es.all (fun e => isExactStrKey e.2) = true := by
    rw [← Array.all_toList, List.all_eq_true]
    intro e he
    obtain ⟨⟨k, hk, _⟩, _⟩ := hel e he
    obtain ⟨u, hu⟩ := Value.isStrOf_shape hk
    rw [hu]; rfl
  have hscan : setScan S.n (.str x t) (hashStr w x) true es = pure .absent := by
    unfold setScan
    dsimp only
    rw [if_pos hall]
    unfold setScanStrs
    rw [hnone]
  generalize hL : layNew tb es (hashStr w x) (.str x t) = L at hperm hfits
  obtain ⟨es1, t1, wasDummy, gave⟩ := L
  dsimp only at hperm hfits
  rw [Array.toList_push] at hperm
  have hel1 : ElemsOf (strKind P0 w) es1.toList := (hel.push hkey rfl).perm hperm
  have hmem1 : ∀ k', (X k' || decide (k' = x)) = true ↔ ∃ e ∈ es1.toList, (strKind P0 w).is k' e.2 = true := mem_push_iff hkey hmem hperm
  have hsz1 : es1.size = n + 1 := by rw [← Array.length_toList, hperm.length_eq, List.length_append, Array.length_toList, hsz]; rfl
  have hb1 : es1.size < scanBound := by rw [hsz1]; exact hr
  have hbyscan : byScan (.str x t) es = true := byScan_of rfl hb hel
  -- the tail: the stores
  have tail : ∀ (g : Bool → Sem Unit) (hg : ∀ b S', Rn treeTable P0 w 11 AN 1 (g b) S' () S') (t2 : SetTable) (hf2 : t2.fits es1.size = true), ∃ D', SetD w D' (fun k => X k || decide (k = x)) (n + 1) ∧
      Rn treeTable P0 w 11 AN 8 (do
        storeSet S.n es1 t2
        if (!wasDummy && t2.tooFull) = true then do
            g (relayAll t2 es1 (SetTable.grown es1.size)).2.2
            storeSet S.n (relayAll t2 es1 (SetTable.grown es1.size)).1 (relayAll t2 es1 (SetTable.grown es1.size)).2.1
            pure (some true)
          else pure (some true)) (St S D (tk + 1)) (some true) (St S D' (tk + 1)) := by
    intro g hg t2 hf2
    have h1 := Rn.storeSet (w := w) (tk := tk + 1) (es' := es1) (t' := t2) hS hn hD (fits_of_scanBound hb1)
    cases hc : (!wasDummy && t2.tooFull) with
    | false =>
      refine ⟨_, ⟨es1, ep + 1, t2, rfl, hel1, hmem1, hb1, hf2, hsz1⟩, (Rn.bind (l := 0) h1 ?_).mono (by omega)⟩
      rw [if_neg Bool.false_ne_true]
      exact Rn.pure _
    | true =>
      have hp := relayAll_perm t2 es1 (SetTable.grown es1.size)
      have hfr := relayAll_fits t2 es1 (SetTable.grown es1.size)
      generalize relayAll t2 es1 (SetTable.grown es1.size) = Rl at hp hfr ⊢
      obtain ⟨es2, t3, gave2⟩ := Rl
      dsimp only at hp hfr ⊢
      have hsz : es2.size = es1.size := by rw [← Array.length_toList, hp.length_eq, Array.length_toList]
      have hb2 : es2.size < scanBound := by rw [hsz]; exact hb1
      refine ⟨_, ⟨es2, ep + 1 + 1, t3, rfl, hel1.perm hp, fun k' => (hmem1 k').trans ⟨fun ⟨e, he, q⟩ => ⟨e, hp.mem_iff.mpr he, q⟩, fun ⟨e, he, q⟩ => ⟨e, hp.mem_iff.mp he, q⟩⟩, hb2, hfr, by rw [hsz, hsz1]⟩,
        (Rn.bind (l := 5) h1 ?_).mono (by omega)⟩
      rw [if_pos rfl]
      exact Rn.bind (k := 1) (l := 4) (hg _ _) (Rn.bind (k := 2) (l := 2) (Rn.storeSet hS hn rfl (fits_of_scanBound hb2)) ((Rn.pure _).mono (Nat.zero_le _)))
  have hgw : ∀ b S', Rn treeTable P0 w 11 AN 1 (match b with | true => PySem.rule "set.scan.the-table-gave-way" | false => pure ()) S' () S' := fun b S' => by
    cases b
    · exact (Rn.pure _).mono (Nat.zero_le _)
    · exact Rn.rule
  have run : ∃ D', SetD w D' (fun k => X k || decide (k = x)) (n + 1) ∧ Rn treeTable P0 w 11 AN 20 (setAddByScan S.n (.str x t) (hashStr w x) es tb) (St S D (tk + 1)) (some true) (St S D' (tk + 1)) := by
    unfold setAddByScan
    cases hpl : t1.plain with
    | true =>
      obtain ⟨D', hD', hrun⟩ := tail (fun b => match b with | true => PySem.rule "set.scan.the-table-gave-way" | false => pure ()) hgw { t1 with plain := false } (SetTable.fits_plain_off hfits)
      refine ⟨D', hD', ?_⟩
      refine (Rn.bind (l := 15) Rn.rule ?_).mono (by omega)
      rw [hscan]
      refine (Rn.bind (l := 15) (Rn.pure _) ?_).mono (by omega)
      dsimp only
      rw [hL]
      dsimp only
      refine (Rn.bind (l := 10) (hgw gave _) ?_).mono (by omega)
      rw [if_pos hpl, hashByValue_scannable 8 (x := .str x t) rfl]
      refine (Rn.bind (l := 8) (Rn.pure _) ?_).mono (by omega)
      exact hrun
    | false =>
      obtain ⟨D', hD', hrun⟩ := tail (fun b => match b with | true => PySem.rule "set.scan.the-table-gave-way" | false => pure ()) hgw t1 hfits
      refine ⟨D', hD', ?_⟩
      refine (Rn.bind (l := 15) Rn.rule ?_).mono (by omega)
      rw [hscan]
      refine (Rn.bind (l := 15) (Rn.pure _) ?_).mono (by omega)
      dsimp only
      rw [hL]
      dsimp only
      refine (Rn.bind (l := 10) (hgw gave _) ?_).mono (by omega)
      rw [if_neg (by rw [hpl]; exact Bool.false_ne_true)]
      refine (Rn.bind (l := 8) (Rn.pure _) ?_).mono (by omega)
      exact hrun
  obtain ⟨D', hD', hrun⟩ := run
  refine ⟨D', hD', ?_⟩
  show Rn treeTable P0 w 11 AN 40 (PySem.pyHash (.str x t) >>= fun h => setAddHashed S.n (.str x t) h) _ _ _
  refine (Rn.bind (l := 30) ((Rn.pyHash w _ x t)) ?_).mono (by omega)
  show Rn treeTable P0 w 11 AN 30 (setAddHashedIn S.n (.str x t) (hashStr w x) 100000) (St S D (tk + 1)) _ _
  unfold setAddHashedIn
  refine (Rn.bind (l := 25) (Rn.setState hS hD hf) ?_).mono (by omega)
  dsimp only
  rw [hbyscan]
  simp only [↓reduceIte]
  refine (Rn.bind (l := 0) hrun ?_).mono (by omega)
  exact Rn.pure _
end
end Mine
end

section
open PySem PySem.W PySem.Calls PyProof.Rows
set_option Elab.async false
set_option maxRecDepth 100000
set_option linter.unusedVariables false
namespace Mine
section
variable {w : World} {S : SharedT}

theorem fresh_SetD (led : Bool) : SetD w (.set #[] 0 (.fresh 0 0 led)) (fun _ => false) 0 :=
  ⟨#[], 0, _, rfl, (fun e he => by simp at he), (fun k => by simp), by decide, by rfl, rfl⟩

/-- a text written in the class body: its sign and its place -/
abbrev TC := Str × Nat × Pos
def TC.e (c : TC) : Expr := .Constant (.str c.1) c.2.1 c.2.2
def vals : Nat → List TC → List Value
  | _, [] => []
  | tk, c :: r => .str c.1 tk :: vals (tk + 1) r

theorem mkText_Rn {D : Data} {tk : Nat} {x : Str} : Rn treeTable P0 w 11 AN 1 (mkText x) (St S D tk) (.str x tk) (St S D (tk + 1)) := by
  unfold mkText
  exact Rn.bind (k := 1) (l := 0) Rn.fresh (Rn.pure _)

theorem evalAll_Rn (pos : Pos) (env : Env) (D : Data) : ∀ (cs : List TC) (tk : Nat),
    Rn treeTable P0 w 11 AN (2 * cs.length) (evalAll (cs.map fun c => do let v ← eval c.e env; standAt pos; pure v)) (St S D tk) (vals tk cs) (St S D (tk + cs.length))
  | [], tk => Rn.pure _
  | c :: r, tk => by
    rw [List.map_cons]
    show Rn treeTable P0 w 11 AN (2 * (r.length + 1)) ((mkText c.1 >>= fun v => standAt pos >>= fun _ => pure v) >>= fun v => holding [v] (evalAll (r.map fun c => do let v ← eval c.e env; standAt pos; pure v)) >>= fun vs => pure (v :: vs)) (St S D tk) (.str c.1 tk :: vals (tk + 1) r) (St S D (tk + (r.length + 1)))
    have q : Rn treeTable P0 w 11 AN 2 (mkText c.1 >>= fun v => standAt pos >>= fun _ => pure v) (St S D tk) (.str c.1 tk) (St S D (tk + 1)) := by
      refine Rn.bind (k := 1) (l := 1) mkText_Rn ?_
      exact Rn.bind (k := 1) (l := 0) (f := fun _ => pure _) Rn.at (Rn.pure _)
    refine (Rn.bind (k := 2) (l := 2 * r.length) q ?_).mono (by omega)
    refine (Rn.bind (k := 2 * r.length) (l := 0) ?_ (Rn.pure _))
    have := evalAll_Rn pos env D r (tk + 1)
    rw [show tk + 1 + r.length = tk + (r.length + 1) by omega] at this
    exact this

def addAll (X : Str → Bool) : List TC → Str → Bool
  | [], k => X k
  | c :: r, k => addAll (fun k => X k || decide (k = c.1)) r k
def newOnes (X : Str → Bool) : List TC → Bool
  | [] => true
  | c :: r => !X c.1 && newOnes (fun k => X k || decide (k = c.1)) r

theorem adds_Rn (hS : Room S) (hn : Nat.ble 11 S.n = true) {f : Value → PUnit.{1} → Sem (ForInStep PUnit.{1})} (hf : ∀ v, f v PUnit.unit = (setAdd S.n v >>= fun _ => pure (ForInStep.yield PUnit.unit))) : ∀ (cs : List TC) (D : Data) (X : Str → Bool) (n tv tk : Nat), SetD w D X n → newOnes X cs = true → n + cs.length < scanBound →
    ∃ D', SetD w D' (addAll X cs) (n + cs.length) ∧ Rn treeTable P0 w 11 AN (40 * cs.length) (forIn (vals tv cs) PUnit.unit f) (St S D tk) PUnit.unit (St S D' (tk + cs.length))
  | [], D, X, n, tv, tk, h, _, _ => ⟨D, h, by rw [vals, List.forIn_nil]; exact Rn.pure _⟩
  | c :: r, D, X, n, tv, tk, h, hc, hb => by
    obtain ⟨h1, h2⟩ := Bool.and_eq_true_iff.mp (show (!X c.1 && newOnes (fun k => X k || decide (k = c.1)) r) = true from hc)
    have hx : X c.1 = false := by simpa using h1
    rw [List.length_cons] at hb
    obtain ⟨D1, hD1, r1⟩ := setAdd_Rn (w := w) (tk := tk) (t := tv) hS hn h hx (by omega)
    obtain ⟨D', hD', r2⟩ := adds_Rn hS hn hf r D1 _ (n + 1) (tv + 1) (tk + 1) hD1 h2 (by omega)
    refine ⟨D', ?_, ?_⟩
    · rw [List.length_cons, show n + (r.length + 1) = n + 1 + r.length by omega]; exact hD'
    · rw [vals, List.forIn_cons, hf, List.length_cons, show tk + (r.length + 1) = tk + 1 + r.length by omega]
      have q : Rn treeTable P0 w 11 AN 40 (setAdd S.n (.str c.1 tv) >>= fun _ => pure (ForInStep.yield PUnit.unit)) (St S D tk) (ForInStep.yield PUnit.unit) (St S D1 (tk + 1)) := Rn.bind (k := 40) (l := 0) r1 (Rn.pure _)
      refine (Rn.bind (k := 40) (l := 40 * r.length) q ?_).mono (by omega)
      exact r2

theorem setUnled_Rn {D : Data} {X : Str → Bool} {n tk : Nat} (hS : Room S) (hn : Nat.ble 11 S.n = true) (h : SetD w D X n) : ∃ D', SetD w D' X n ∧ Rn treeTable P0 w 11 AN 3 (setUnled S.n) (St S D tk) () (St S D' tk) := by
  obtain ⟨es, ep, tb, hD, hel, hmem, hb, hf, hsz⟩ := h.is
  refine ⟨_, ⟨es, ep + 1, { tb with led := false }, rfl, hel, hmem, hb, by cases tb; exact hf, hsz⟩, ?_⟩
  unfold setUnled
  refine Rn.bind (k := 1) (l := 2) (Rn.setState hS hD hf) ?_
  exact Rn.storeSet hS hn hD (fits_of_scanBound hb)
end
end Mine
end

section
open PySem PySem.W PySem.Calls PyProof.Rows
set_option Elab.async false
set_option maxRecDepth 100000
set_option linter.unusedVariables false
namespace Mine
section
variable {w : World} {S : SharedT}

theorem Rn.keep {α : Type} {k : Nat} {m : Sem α} {S₁ S₂ : SharedT} {a : α} {vs : List Value} (h : Rn treeTable P0 w 11 AN k m S₁ a S₂) : Rn treeTable P0 w 11 AN k (m.keep vs) S₁ a S₂ := by
  obtain ⟨n, hn, x⟩ := h
  refine ⟨n, hn, fun K H gd lv b e pos f g => ?_⟩
  rw [Sem.keep_eq_wrap, Sem.wrap_wrap]
  exact x _ _ _ _ b e pos f g
theorem Rn.holding {α : Type} {k : Nat} {m : Sem α} {S₁ S₂ : SharedT} {a : α} {vs : List Value} (h : Rn treeTable P0 w 11 AN k m S₁ a S₂) : Rn treeTable P0 w 11 AN k (holding vs m) S₁ a S₂ := by
  unfold PySem.holding
  split
  · exact h
  · exact h.keep

theorem newSet_Rn (hS : Room S) : ∃ led, Rn treeTable P0 w 11 AN 2 (newSet (.type "set")) S (.ref S.n) (St S (.set #[] 0 (.fresh 0 0 led)) S.toks) := by
  refine ⟨!(w.params.followText "set-order"), ?_⟩
  unfold newSet setsByText
  simp only [newObj]
  exact Rn.bind (k := 1) (l := 1) (Rn.bind (k := 1) (l := 0) Rn.ask (Rn.pure _)) (Rn.bind (k := 1) (l := 0) (Rn.alloc (hS _)) (Rn.pure _))

theorem starEach_TC (env : Env) : ∀ cs : List TC, starEach (cs.map TC.e) env = cs.map fun c => (false, eval c.e env)
  | [] => rfl
  | c :: r => by
    rw [List.map_cons, List.map_cons, ← starEach_TC env r]; rfl

theorem display_Rn (cs : List TC) (pos : Pos) (env : Env) (hS : Room S) (hn : Nat.ble 11 S.n = true) (hm : ∃ b, Rn treeTable P0 w 11 AN 2 (inMainModule env) S b S) (hroad : displayRoad 0 (cs.map TC.e) = .unsure)
    (hne : newOnes (fun _ => false) cs = true) (hlen : cs.length ≤ 30) :
    ∃ D', SetD w D' (addAll (fun _ => false) cs) cs.length ∧ Rn treeTable P0 w 11 AN (50 + 42 * cs.length) (eval (.Set (cs.map TC.e) 0 pos) env) S (.ref S.n) (St S D' (S.toks + cs.length + cs.length)) := by
  obtain ⟨led, h1⟩ := newSet_Rn (w := w) hS
  obtain ⟨b, hb⟩ := hm
  have h2 := evalAll_Rn (w := w) (S := S) pos env (.set #[] 0 (.fresh 0 0 led)) cs S.toks
  have hf : ∀ v, (fun (x : Value) (r : PUnit.{1}) => (do let _ ← setAdd S.n x; pure (ForInStep.yield PUnit.unit) : Sem (ForInStep PUnit))) v PUnit.unit = (setAdd S.n v >>= fun _ => pure (ForInStep.yield PUnit.unit)) := fun v => rfl
  have bnd : scanBound = 4096 := rfl
  obtain ⟨D1, hD1, h3⟩ := adds_Rn (w := w) (S := S) hS hn (f := fun (x : Value) (r : PUnit.{1}) => (do let _ ← setAdd S.n x; pure (ForInStep.yield PUnit.unit) : Sem (ForInStep PUnit))) hf cs _ (fun _ => false) 0 S.toks (S.toks + cs.length) (fresh_SetD led) hne (by rw [bnd]; omega)
  obtain ⟨D2, hD2, h4⟩ := setUnled_Rn (w := w) (S := S) (tk := S.toks + cs.length + cs.length) hS hn hD1
  rw [Nat.zero_add] at hD2
  refine ⟨D2, hD2, ?_⟩
  rw [arm_eval_Set]
  refine (Rn.bind (k := 1) (l := 49 + 42 * cs.length) Rn.at ?_).mono (by omega)
  refine (Rn.bind (k := 2) (l := 47 + 42 * cs.length) hb ?_).mono (by omega)
  rw [hroad, starEach_TC, List.map_map]
  unfold setDisplay
  rw [if_neg (by decide)]
  refine (Rn.bind (k := 2) (l := 45 + 42 * cs.length) h1 ?_).mono (by omega)
  dsimp only
  have e1 : List.findIdx? (fun x : Bool × Sem Value => x.1) (cs.map ((fun x : Bool × Sem Value => (x.1, do let v ← x.2; standAt pos; pure v)) ∘ fun c => (false, eval c.e env))) = none := by
    refine List.findIdx?_eq_none_iff.mpr fun x hx => ?_
    obtain ⟨c, _, rfl⟩ := List.mem_map.mp hx
    rfl
  have e2 : (if (cs.map ((fun x : Bool × Sem Value => (x.1, do let v ← x.2; standAt pos; pure v)) ∘ fun c => (false, eval c.e env))).length > 30 then 0 else
      (List.findIdx? (fun x : Bool × Sem Value => x.1) (cs.map ((fun x : Bool × Sem Value => (x.1, do let v ← x.2; standAt pos; pure v)) ∘ fun c => (false, eval c.e env)))).getD (cs.map ((fun x : Bool × Sem Value => (x.1, do let v ← x.2; standAt pos; pure v)) ∘ fun c => (false, eval c.e env))).length) =
      (cs.map ((fun x : Bool × Sem Value => (x.1, do let v ← x.2; standAt pos; pure v)) ∘ fun c => (false, eval c.e env))).length := by
    rw [if_neg (by rw [List.length_map]; omega), e1]; rfl
  rw [e2, List.take_length, List.drop_length, List.map_map]
  refine Rn.bind (k := 45 + 42 * cs.length) (l := 0) (S' := St S D2 (S.toks + cs.length + cs.length)) (a := PUnit.unit) (Rn.holding ?_) (Rn.pure _)
  refine (Rn.bind (k := 2 * cs.length) (l := 45 + 40 * cs.length) (a := vals S.toks cs) h2 ?_).mono (by omega)
  refine (Rn.bind (k := 40 * cs.length + 5) (l := 0) (S' := St S D2 (S.toks + cs.length + cs.length)) (a := ()) (Rn.holding ?_) ?_).mono (by omega)
  · refine (Rn.bind (k := 40 * cs.length) (l := 5) h3 ?_).mono (by omega)
    rw [if_pos (by decide)]
    exact (Rn.bind (k := 1) (l := 3) Rn.rule h4).mono (by omega)
  · rw [List.forIn_nil]
    exact Rn.bind (k := 0) (l := 0) (Rn.pure _) (Rn.pure _)
end
end Mine
end

section
open PySem PySem.W PySem.Calls PyProof.Rows
set_option Elab.async false
set_option maxRecDepth 100000
set_option linter.unusedVariables false
namespace Mine
noncomputable section

def tcs : List Expr → List TC := List.filterMap fun e => match e with
  | .Constant (.str s) k p => some (s, k, p)
  | _ => none
def setOf : Stmt → List TC × Pos × List Expr × Pos
  | .Assign ts (.Set es _ sp) p => (tcs es, sp, ts, p)
  | _ => ([], default, [], default)
def nthSt (i : Nat) : Stmt := (clsBody.drop i).headD (.Pass default)
def cs1 : List TC := (setOf (nthSt 0)).1
def cs2 : List TC := (setOf (nthSt 1)).1
def sp1 : Pos := (setOf (nthSt 0)).2.1
def sp2 : Pos := (setOf (nthSt 1)).2.1
def tg1 : List Expr := (setOf (nthSt 0)).2.2.1
def tg2 : List Expr := (setOf (nthSt 1)).2.2.1
def ap1 : Pos := (setOf (nthSt 0)).2.2.2
def ap2 : Pos := (setOf (nthSt 1)).2.2.2
def rest2 : List Stmt := clsBody.drop 2
def setE1 : Expr := .Set (cs1.map TC.e) 0 sp1
def setE2 : Expr := .Set (cs2.map TC.e) 0 sp2
theorem body_eq : clsBody = .Assign tg1 setE1 ap1 :: .Assign tg2 setE2 ap2 :: rest2 := by kernel_rfl

theorem road1 : displayRoad 0 (cs1.map TC.e) = .unsure := by kernel_rfl
theorem road2 : displayRoad 0 (cs2.map TC.e) = .unsure := by kernel_rfl
theorem ones1 : newOnes (fun _ => false) cs1 = true := by kernel_rfl
theorem ones2 : newOnes (fun _ => false) cs2 = true := by kernel_rfl
theorem len1 : cs1.length = 6 := by kernel_rfl
theorem len2 : cs2.length = 9 := by kernel_rfl
theorem cs1_is : cs1.map (·.1) = (["a", "e", "i", "o", "u", "y"] : List Str) := by kernel_rfl
theorem cs2_is : cs2.map (·.1) = (["Y", "a", "e", "i", "o", "u", "w", "x", "y"] : List Str) := by kernel_rfl

/-- what stands behind the value of an assignment -/
def asgK (ts : List Expr) (e : Expr) (v : Value) : Sem Flow := do
  assignStores cenv v (← swappedStores ts e cenv) ((assignEach ts cenv).map (·.2))
theorem asg1 : exec (.Assign tg1 setE1 ap1) cenv = (standAt ap1 >>= fun _ => eval setE1 cenv >>= asgK tg1 setE1) := by kernel_rfl
theorem asg2 : exec (.Assign tg2 setE2 ap2) cenv = (standAt ap2 >>= fun _ => eval setE2 cenv >>= asgK tg2 setE2) := by kernel_rfl

def K1 (f : Flow) : Sem Fin := match f with | .next => (execs (.Assign tg2 setE2 ap2 :: rest2) cenv).wrap doneF (leaveH cenv) id id | f => doneF f
def K2 (f : Flow) : Sem Fin := match f with | .next => (execs rest2 cenv).wrap doneF (leaveH cenv) id id | f => doneF f
def cCode : Code := .body clsBody cenv

-- the first set
def codeOk (S : SharedT) : Bool := match S.tree.get 230 with
  | some ⟨.type _, _, .fields vs, _⟩ => (match vs.getD 18 .none with | .str _ _ => true | _ => false)
  | _ => false
def sOk (n k : Nat) (S : SharedT) (o : Obj) : Bool := codeOk S && Nat.ble 11 S.n && Nat.beq S.n n && Nat.beq S.toks k && ((S.tree.ins S.n o).get S.n).isSome
theorem sOk_facts {n k : Nat} {S : SharedT} (h : ∀ o, sOk n k S o = true) : codeOk S = true ∧ Nat.ble 11 S.n = true ∧ S.n = n ∧ S.toks = k ∧ Room S := by
  unfold sOk at h
  simp only [Bool.and_eq_true] at h
  obtain ⟨⟨⟨⟨h1, h2⟩, h3⟩, h4⟩, _⟩ := h default
  exact ⟨h1, h2, Nat.eq_of_beq_eq_true h3, Nat.eq_of_beq_eq_true h4, fun o => (h o).2⟩
def c3 (w : World) (os : OsState) (o : Obj) : Bool := sOk 232 476 (S2 w os) o
theorem c3_self : c3 = c3 := rfl
name_quick mineC3 for Mine.c3 by Mine.c3_self
theorem k3 : ∀ w os o, PySem.W.Fast.mineC3 w os o = true := fun w os o => by kernel_rfl
end
end Mine
end

section
open PySem PySem.W PySem.Calls PyProof.Rows
set_option Elab.async false
set_option maxRecDepth 100000
set_option linter.unusedVariables false
namespace Mine
noncomputable section

abbrev TF : Frame := topFrame default
def T4 (w : World) (os : OsState) (pos : Pos) : Thread := ⟨(asgK tg1 setE1 (.ref 232)).wrap K1 (leaveH cenv) id id, cCode, pos, [FA w os, TF]⟩
def r5 (w : World) (os : OsState) (es : Array (Int × Value)) (ep : Nat) (t : SetTable) (pos : Pos) : Option (SharedT × Thread) :=
  goT treeTable P0 w 11 AN 8 (St (S2 w os) (.set es ep t) 488) (T4 w os pos)
def x5 (w : World) (os : OsState) (es : Array (Int × Value)) (ep : Nat) (t : SetTable) (pos : Pos) : SharedT × Thread := (r5 w os es ep t pos).getD (S2 w os, T4 w os pos)
def S5 (w : World) (os : OsState) (es : Array (Int × Value)) (ep : Nat) (t : SetTable) (pos : Pos) : SharedT := (x5 w os es ep t pos).1
def pos5 (w : World) (os : OsState) (es : Array (Int × Value)) (ep : Nat) (t : SetTable) (pos : Pos) : Pos := (x5 w os es ep t pos).2.pos
def T5 (w : World) (os : OsState) (pos : Pos) : Thread := ⟨(execs (.Assign tg2 setE2 ap2 :: rest2) cenv).wrap doneF (leaveH cenv) id id, cCode, pos, [FA w os, TF]⟩
def c5 (w : World) (os : OsState) (es : Array (Int × Value)) (ep : Nat) (t : SetTable) (pos : Pos) : Option Thread := (r5 w os es ep t pos).map (·.2)
def c5' (w : World) (os : OsState) (es : Array (Int × Value)) (ep : Nat) (t : SetTable) (pos : Pos) : Option Thread := some (T5 w os (pos5 w os es ep t pos))
theorem c5_self : c5 = c5 := rfl
theorem c5'_self : c5' = c5' := rfl
name_quick mineC5 for Mine.c5 by Mine.c5_self
name_quick mineC5' for Mine.c5' by Mine.c5'_self
theorem k5 : ∀ w os es ep t pos, PySem.W.Fast.mineC5 w os es ep t pos = PySem.W.Fast.mineC5' w os es ep t pos := fun w os es ep t pos => by kernel_rfl

def c6 (w : World) (os : OsState) (es : Array (Int × Value)) (ep : Nat) (t : SetTable) (pos : Pos) (o : Obj) : Bool :=
  sOk 233 489 (S5 w os es ep t pos) o
theorem c6_self : c6 = c6 := rfl
name_quick mineC6 for Mine.c6 by Mine.c6_self
theorem k6 : ∀ w os es ep t pos o, PySem.W.Fast.mineC6 w os es ep t pos o = true := fun w os es ep t pos o => by kernel_rfl

def T6 (w : World) (os : OsState) (pos : Pos) : Thread := ⟨(asgK tg2 setE2 (.ref 233)).wrap K2 (leaveH cenv) id id, cCode, pos, [FA w os, TF]⟩
def S6 (w : World) (os : OsState) (es : Array (Int × Value)) (ep : Nat) (t : SetTable) (pos : Pos) (es' : Array (Int × Value)) (ep' : Nat) (t' : SetTable) : SharedT := St (S5 w os es ep t pos) (.set es' ep' t') 507
end
end Mine
end

section
open PySem PySem.W PySem.Calls PyProof.Rows
set_option Elab.async false
set_option maxRecDepth 100000
set_option linter.unusedVariables false
namespace Mine
def runT (tb : String → Option Builtin) (p : Program) (w : World) (n₀ : Nat) (ann : Option Value) : Nat → SharedT → Thread → Option SharedT
  | 0, _, _ => none
  | n + 1, s, t => match through t with
    | true => some s
    | false => match stepOk n₀ ann t with
      | false => none
      | true => match stepT (denote tb) p w s t with
        | some (s', t') => runT tb p w n₀ ann n s' t'
        | none => none
theorem runT_of {tb : String → Option Builtin} {p : Program} {w : World} {n₀ : Nat} {ann : Option Value} : ∀ {n : Nat} {s s' : SharedT} {t : Thread},
    runT tb p w n₀ ann n s t = some s' → topRun tb p w n₀ ann n s.abs t = some s'.abs
  | 0, _, _, _, h => by cases h
  | n + 1, s, s', t, h => by
    unfold runT at h
    unfold topRun
    cases ht : through t with
    | true => rw [ht] at h; cases h; rfl
    | false =>
      rw [ht] at h
      cases hk : stepOk n₀ ann t with
      | false => rw [hk] at h; cases h
      | true =>
        rw [hk] at h
        cases hs : stepT (denote tb) p w s t with
        | none => rw [hs] at h; cases h
        | some r => obtain ⟨s₂, t₂⟩ := r; rw [hs] at h; rw [stepT_spec hs]; exact runT_of h
noncomputable section
def r7 (w : World) (os : OsState) (es : Array (Int × Value)) (ep : Nat) (t : SetTable) (pos : Pos) (es' : Array (Int × Value)) (ep' : Nat) (t' : SetTable) (pos' : Pos) : Option SharedT :=
  runT treeTable P0 w 11 AN 13500 (S6 w os es ep t pos es' ep' t') (T6 w os pos')
end
end Mine
end

section
namespace Mine

/-- the texts of the small language: lists of signs' numbers -/
abbrev Tx := List Nat
inductive V where
  | undef | none | bool (b : Bool) | int (i : Int) | str (s : Tx) | list (vs : List V) | tup (vs : List V) | slf | set (k : Bool) | among (s : Tx) (sub res : Int)
  deriving Inhabited
def vA0 : V := .list [.among [115] (-1) 3, .among [105, 101, 115] 0 2, .among [115, 115, 101, 115] 0 1, .among [115, 115] 0 (-1)]
def vS0 : V := .tup [.str [115, 115], .str [105], .str []]
def vA1 : V := .list [.among [] (-1) 3, .among [98, 98] 0 2, .among [100, 100] 0 2, .among [102, 102] 0 2, .among [103, 103] 0 2, .among [98, 108] 0 1, .among [109, 109] 0 2, .among [110, 110] 0 2, .among [112, 112] 0 2, .among [114, 114] 0 2, .among [97, 116] 0 1, .among [116, 116] 0 2, .among [105, 122] 0 1]
def vA2 : V := .list [.among [101, 100] (-1) 2, .among [101, 101, 100] 0 1, .among [105, 110, 103] (-1) 2]
def vA3 : V := .list [.among [97, 110, 99, 105] (-1) 3, .among [101, 110, 99, 105] (-1) 2, .among [97, 98, 108, 105] (-1) 4, .among [101, 108, 105] (-1) 6, .among [97, 108, 108, 105] (-1) 9, .among [111, 117, 115, 108, 105] (-1) 11, .among [101, 110, 116, 108, 105] (-1) 5, .among [97, 108, 105, 116, 105] (-1) 9, .among [98, 105, 108, 105, 116, 105] (-1) 13, .among [105, 118, 105, 116, 105] (-1) 12, .among [116, 105, 111, 110, 97, 108] (-1) 1, .among [97, 116, 105, 111, 110, 97, 108] 10 8, .among [97, 108, 105, 115, 109] (-1) 9, .among [97, 116, 105, 111, 110] (-1) 8, .among [105, 122, 97, 116, 105, 111, 110] 13 7, .among [105, 122, 101, 114] (-1) 7, .among [97, 116, 111, 114] (-1) 8, .among [105, 118, 101, 110, 101, 115, 115] (-1) 12, .among [102, 117, 108, 110, 101, 115, 115] (-1) 10, .among [111, 117, 115, 110, 101, 115, 115] (-1) 11]
def vS3 : V := .tup [.str [116, 105, 111, 110], .str [101, 110, 99, 101], .str [97, 110, 99, 101], .str [97, 98, 108, 101], .str [101, 110, 116], .str [101], .str [105, 122, 101], .str [97, 116, 101], .str [97, 108], .str [102, 117, 108], .str [111, 117, 115], .str [105, 118, 101], .str [98, 108, 101]]
def vA4 : V := .list [.among [105, 99, 97, 116, 101] (-1) 2, .among [97, 116, 105, 118, 101] (-1) 3, .among [97, 108, 105, 122, 101] (-1) 1, .among [105, 99, 105, 116, 105] (-1) 2, .among [105, 99, 97, 108] (-1) 2, .among [102, 117, 108] (-1) 3, .among [110, 101, 115, 115] (-1) 3]
def vS4 : V := .tup [.str [97, 108], .str [105, 99], .str []]
def vA5 : V := .list [.among [105, 99] (-1) 1, .among [97, 110, 99, 101] (-1) 1, .among [101, 110, 99, 101] (-1) 1, .among [97, 98, 108, 101] (-1) 1, .among [105, 98, 108, 101] (-1) 1, .among [97, 116, 101] (-1) 1, .among [105, 118, 101] (-1) 1, .among [105, 122, 101] (-1) 1, .among [105, 116, 105] (-1) 1, .among [97, 108] (-1) 1, .among [105, 115, 109] (-1) 1, .among [105, 111, 110] (-1) 2, .among [101, 114] (-1) 1, .among [111, 117, 115] (-1) 1, .among [97, 110, 116] (-1) 1, .among [101, 110, 116] (-1) 1, .among [109, 101, 110, 116] 15 1, .among [101, 109, 101, 110, 116] 16 1, .among [111, 117] (-1) 1]
def vTWO : V := .list [.tup [.str [97, 110, 99, 105], .str [97, 110, 99, 101]], .tup [.str [101, 110, 99, 105], .str [101, 110, 99, 101]], .tup [.str [97, 98, 108, 105], .str [97, 98, 108, 101]], .tup [.str [101, 108, 105], .str [101]], .tup [.str [97, 108, 108, 105], .str [97, 108]], .tup [.str [111, 117, 115, 108, 105], .str [111, 117, 115]], .tup [.str [101, 110, 116, 108, 105], .str [101, 110, 116]], .tup [.str [97, 108, 105, 116, 105], .str [97, 108]], .tup [.str [98, 105, 108, 105, 116, 105], .str [98, 108, 101]], .tup [.str [105, 118, 105, 116, 105], .str [105, 118, 101]], .tup [.str [116, 105, 111, 110, 97, 108], .str [116, 105, 111, 110]], .tup [.str [97, 116, 105, 111, 110, 97, 108], .str [97, 116, 101]], .tup [.str [97, 108, 105, 115, 109], .str [97, 108]], .tup [.str [97, 116, 105, 111, 110], .str [97, 116, 101]], .tup [.str [105, 122, 97, 116, 105, 111, 110], .str [105, 122, 101]], .tup [.str [105, 122, 101, 114], .str [105, 122, 101]], .tup [.str [97, 116, 111, 114], .str [97, 116, 101]], .tup [.str [105, 118, 101, 110, 101, 115, 115], .str [105, 118, 101]], .tup [.str [102, 117, 108, 110, 101, 115, 115], .str [102, 117, 108]], .tup [.str [111, 117, 115, 110, 101, 115, 115], .str [111, 117, 115]]]
def vTHREE : V := .list [.tup [.str [105, 99, 97, 116, 101], .str [105, 99]], .tup [.str [97, 116, 105, 118, 101], .str []], .tup [.str [97, 108, 105, 122, 101], .str [97, 108]], .tup [.str [105, 99, 105, 116, 105], .str [105, 99]], .tup [.str [105, 99, 97, 108], .str [105, 99]], .tup [.str [102, 117, 108], .str []], .tup [.str [110, 101, 115, 115], .str []]]
def vFOUR : V := .list [.tup [.str [105, 99], .str []], .tup [.str [97, 110, 99, 101], .str []], .tup [.str [101, 110, 99, 101], .str []], .tup [.str [97, 98, 108, 101], .str []], .tup [.str [105, 98, 108, 101], .str []], .tup [.str [97, 116, 101], .str []], .tup [.str [105, 118, 101], .str []], .tup [.str [105, 122, 101], .str []], .tup [.str [105, 116, 105], .str []], .tup [.str [97, 108], .str []], .tup [.str [105, 115, 109], .str []], .tup [.str [105, 111, 110], .str []], .tup [.str [101, 114], .str []], .tup [.str [111, 117, 115], .str []], .tup [.str [97, 110, 116], .str []], .tup [.str [101, 110, 116], .str []], .tup [.str [109, 101, 110, 116], .str []], .tup [.str [101, 109, 101, 110, 116], .str []], .tup [.str [111, 117], .str []]]
def glbs : List V := [.set false, .set true, vA0, vA1, vA2, vA3, vA4, vA5, vS0, vS3, vS4, vTWO, vTHREE, vFOUR]
inductive Fld where | cur | c | l | lb | bra | ket | p1 | p2
  deriving DecidableEq, Inhabited
structure Stem where
  cur : Option V
  c : Option V
  l : Option V
  lb : Option V
  bra : Option V
  ket : Option V
  p1 : Option V
  p2 : Option V
  deriving Inhabited
def Stem.get (s : Stem) : Fld → Option V
  | .cur => s.cur | .c => s.c | .l => s.l | .lb => s.lb | .bra => s.bra | .ket => s.ket | .p1 => s.p1 | .p2 => s.p2
def Stem.put (s : Stem) (v : V) : Fld → Stem
  | .cur => { s with cur := some v } | .c => { s with c := some v } | .l => { s with l := some v } | .lb => { s with lb := some v }
  | .bra => { s with bra := some v } | .ket => { s with ket := some v } | .p1 => { s with p1 := some v } | .p2 => { s with p2 := some v }
abbrev Sta := Option Stem
inductive Bop where | add | sub | mul | mod | shr
  deriving DecidableEq, Inhabited
inductive Cop where | lt | le | gt | ge | eq | ne
  deriving DecidableEq, Inhabited
mutual
inductive X where
  | loc (i : Nat) | cst (v : V) | glb (k : Nat) | fld (i : Nat) (f : Fld) | aat (i : Nat) (k : Nat) | bin (o : Bop) (a b : X) | cmp (o : Cop) (a b : X) | neg (a : X) | notv (a : X) | andv (a b : X) | orv (a b : X)
  | inset (neg : Bool) (a b : X) | inl (a : X) (cs : List Tx) | idx (a b : X) | slc (a lo hi : X) | len (a : X) | ord (a : X) | min (a b : X) | isStr (a : X) | anyV (a : X) | endsw (a b : X)
  | call (f : Nat) (as : Xs) | meth (f i : Nat) (as : Xs) | new (f : Nat) | tup (as : Xs) | list (as : Xs)
inductive Xs where
  | nil | cons (a : X) (r : Xs)
end
instance : Inhabited X := ⟨.cst .none⟩
inductive T where
  | x (a : X) | not (a : T) | tt | ff | and (a b : T) | or (a b : T)
  deriving Inhabited
inductive S where
  | skip | seq (a b : S) | asg (i : Nat) (a : X) | asg2 (i j : Nat) (a : X) | aug (i : Nat) (o : Bop) (a : X) | setf (i : Nat) (f : Fld) (a : X) | augf (i : Nat) (f : Fld) (o : Bop) (a : X)
  | ife (t : T) (a b : S) | whl (t : T) (a : S) | forx (i : Nat) (a : X) (b : S) | forr (i : Nat) (lo hi : X) (down : Bool) (b : S) | ret (a : X) | brk | cont | expr (a : X) | asrt (t : T) | tryx (k : Nat) (a : S) | raise (k : Nat)
  deriving Inhabited
inductive Fl where | next | brk | cont | ret (v : V) | exc (k : Nat)
  deriving Inhabited

def flat : V → Bool
  | .int _ => true | .str _ => true | _ => false
def sizeMax : Nat := 2 ^ 20
def truthV : V → Option Bool
  | .bool b => some b | .list vs => some (!vs.isEmpty) | _ => .none
def small (i : Int) : Bool := decide (-(2 ^ 62 : Int) < i) && decide (i < 2 ^ 62)
def binV : Bop → V → V → Option V
  | .add, .int a, .int b => some (.int (a + b))
  | .add, .str a, .str b => if a.length + b.length ≤ sizeMax then some (.str (a ++ b)) else .none
  | .sub, .int a, .int b => some (.int (a - b))
  | .mul, .int a, .int b => if a = 2 then some (.int (a * b)) else .none
  | .mod, .int a, .int b => if 0 < b then some (.int (a % b)) else .none
  | .shr, .int a, .int b => if b = 1 then some (.int (a / 2)) else .none
  | _, _, _ => .none
def cmpV : Cop → V → V → Option V
  | .lt, .int a, .int b => some (.bool (decide (a < b)))
  | .le, .int a, .int b => some (.bool (decide (a ≤ b)))
  | .gt, .int a, .int b => some (.bool (decide (b < a)))
  | .ge, .int a, .int b => some (.bool (decide (b ≤ a)))
  | .eq, .int a, .int b => some (.bool (decide (a = b)))
  | .ne, .int a, .int b => some (.bool (!decide (a = b)))
  | .eq, .str a, .str b => some (.bool (decide (a = b)))
  | .ne, .str a, .str b => some (.bool (!decide (a = b)))
  | _, _, _ => .none
def vowelTx : List Tx := [[97], [101], [105], [111], [117], [121]]
def wxyTx : List Tx := [[89], [97], [101], [105], [111], [117], [119], [120], [121]]
def setTx (k : Bool) : List Tx := if k then wxyTx else vowelTx
def insetV (neg : Bool) : V → V → Option V
  | .str a, .set k => some (.bool (neg != (setTx k).contains a))
  | _, _ => .none
def inlV (cs : List Tx) : V → Option V
  | .str a => some (.bool (cs.contains a))
  | _ => .none
def idxV : V → V → Option V
  | .str a, .int i => if 0 ≤ i then (a[i.toNat]?).map fun c => .str [c] else .none
  | .list vs, .int i => if 0 ≤ i then vs[i.toNat]? else .none
  | .tup vs, .int i => if 0 ≤ i then vs[i.toNat]? else .none
  | _, _ => .none
def loOf : V → Option Nat
  | .none => some 0 | .int i => if 0 ≤ i then some i.toNat else .none | _ => .none
def hiOf (n : Nat) : V → Option Nat
  | .none => some n | .int i => if 0 ≤ i then some (min n i.toNat) else .none | _ => .none
def slcV : V → V → V → Option V
  | .str a, lo, hi => do let i ← loOf lo; let j ← hiOf a.length hi; some (.str ((a.take j).drop i))
  | .list a, lo, hi => do let i ← loOf lo; let j ← hiOf a.length hi; some (.list ((a.take j).drop i))
  | _, _, _ => .none
def lenV : V → Option V
  | .str a => some (.int a.length) | .list a => some (.int a.length) | _ => .none
def ordV : V → Option V
  | .str [c] => some (.int c) | _ => .none
def minV : V → V → Option V
  | .int a, .int b => some (.int (if b < a then b else a)) | _, _ => .none
def isStrV : V → Option V
  | .str _ => some (.bool true) | _ => .none
def endswV : V → V → Option V
  | .str a, .str b => some (.bool (b.isSuffixOf a)) | _, _ => .none
def aatV : Nat → V → Option V
  | 0, .among s _ _ => some (.str s) | 1, .among _ i _ => some (.int i) | 2, .among _ _ r => some (.int r) | _, _ => .none
def negV : V → Option V
  | .int i => some (.int (-i)) | _ => .none
def locV (ρ : List V) (i : Nat) : Option V := match ρ[i]? with
  | some .undef => .none | r => r

def anyVow : List V → Option Bool
  | [] => some false
  | .str a :: r => (anyVow r).map fun b => vowelTx.contains a || b
  | _ => .none
def anyVowV : V → Option V
  | .list vs => (anyVow vs).map .bool | _ => .none
section
variable (Φ : Nat → List V → Sta → Option (V × Sta))
mutual
def evalX (ρ : List V) : X → Sta → Option (V × Sta)
  | .loc i, σ => do some (← locV ρ i, σ)
  | .cst v, σ => some (v, σ)
  | .glb k, σ => do some (← glbs[k]?, σ)
  | .fld i f, σ => match locV ρ i, σ with
    | some .slf, some s => do some (← s.get f, σ)
    | _, _ => .none
  | .aat i k, σ => do some (← aatV k (← locV ρ i), σ)
  | .bin o a b, σ => do
    let (x, σ) ← evalX ρ a σ
    let (y, σ) ← evalX ρ b σ
    some (← binV o x y, σ)
  | .cmp o a b, σ => do
    let (x, σ) ← evalX ρ a σ
    let (y, σ) ← evalX ρ b σ
    some (← cmpV o x y, σ)
  | .neg a, σ => do
    let (x, σ) ← evalX ρ a σ
    some (← negV x, σ)
  | .notv a, σ => do
    let (x, σ) ← evalX ρ a σ
    some (.bool (!(← truthV x)), σ)
  | .andv a b, σ => do
    let (x, σ) ← evalX ρ a σ
    if ← truthV x then evalX ρ b σ else some (x, σ)
  | .orv a b, σ => do
    let (x, σ) ← evalX ρ a σ
    if ← truthV x then some (x, σ) else evalX ρ b σ
  | .inset n a b, σ => do
    let (x, σ) ← evalX ρ a σ
    let (y, σ) ← evalX ρ b σ
    some (← insetV n x y, σ)
  | .inl a cs, σ => do
    let (x, σ) ← evalX ρ a σ
    some (← inlV cs x, σ)
  | .idx a b, σ => do
    let (x, σ) ← evalX ρ a σ
    let (y, σ) ← evalX ρ b σ
    some (← idxV x y, σ)
  | .slc a lo hi, σ => do
    let (x, σ) ← evalX ρ a σ
    let (y, σ) ← evalX ρ lo σ
    let (z, σ) ← evalX ρ hi σ
    some (← slcV x y z, σ)
  | .len a, σ => do
    let (x, σ) ← evalX ρ a σ
    some (← lenV x, σ)
  | .ord a, σ => do
    let (x, σ) ← evalX ρ a σ
    some (← ordV x, σ)
  | .min a b, σ => do
    let (x, σ) ← evalX ρ a σ
    let (y, σ) ← evalX ρ b σ
    some (← minV x y, σ)
  | .isStr a, σ => do
    let (x, σ) ← evalX ρ a σ
    some (← isStrV x, σ)
  | .anyV a, σ => do
    let (x, σ) ← evalX ρ a σ
    some (← anyVowV x, σ)
  | .endsw a b, σ => do
    let (x, σ) ← evalX ρ a σ
    let (y, σ) ← evalX ρ b σ
    some (← endswV x y, σ)
  | .call f as, σ => do
    let (vs, σ) ← evalXs ρ as σ
    Φ f vs σ
  | .meth f i as, σ => match locV ρ i with
    | some .slf => do
      let (vs, σ) ← evalXs ρ as σ
      Φ f (.slf :: vs) σ
    | _ => .none
  | .new f, σ => match σ with
    | .none => do
      let (u, σ) ← Φ f [.slf] (some ⟨.none, .none, .none, .none, .none, .none, .none, .none⟩)
      match u with
      | .none => some (.slf, σ)
      | _ => .none
    | _ => .none
  | .tup as, σ => do
    let (vs, σ) ← evalXs ρ as σ
    some (.tup vs, σ)
  | .list as, σ => do
    let (vs, σ) ← evalXs ρ as σ
    some (.list vs, σ)
def evalXs (ρ : List V) : Xs → Sta → Option (List V × Sta)
  | .nil, σ => some ([], σ)
  | .cons a r, σ => do
    let (x, σ) ← evalX ρ a σ
    let (xs, σ) ← evalXs ρ r σ
    some (x :: xs, σ)
end
def evalT (ρ : List V) : T → Sta → Option (Bool × Sta)
  | .x a, σ => do
    let (x, σ) ← evalX Φ ρ a σ
    some (← truthV x, σ)
  | .not a, σ => do
    let (b, σ) ← evalT ρ a σ
    some (!b, σ)
  | .tt, σ => some (true, σ)
  | .ff, σ => some (false, σ)
  | .and a b, σ => do
    let (x, σ) ← evalT ρ a σ
    if x then evalT ρ b σ else some (false, σ)
  | .or a b, σ => do
    let (x, σ) ← evalT ρ a σ
    if x then some (true, σ) else evalT ρ b σ
abbrev Out := Option (Fl × List V × Sta)
def iterW (t : List V → Sta → Option (Bool × Sta)) (b : List V → Sta → Out) : Nat → List V → Sta → Out
  | 0, _, _ => .none
  | n + 1, ρ, σ => do
    let (c, σ) ← t ρ σ
    if c then do
      let (f, ρ, σ) ← b ρ σ
      match f with
      | .next | .cont => iterW t b n ρ σ
      | .brk => some (.next, ρ, σ)
      | f => some (f, ρ, σ)
    else some (.next, ρ, σ)
def setL (ρ : List V) (i : Nat) (v : V) : Option (List V) := if i < ρ.length then some (ρ.set i v) else .none
def iterF (i : Nat) (b : List V → Sta → Out) : List V → List V → Sta → Out
  | [], ρ, σ => some (.next, ρ, σ)
  | v :: r, ρ, σ => do
    let ρ ← setL ρ i v
    let (f, ρ, σ) ← b ρ σ
    match f with
    | .next | .cont => iterF i b r ρ σ
    | .brk => some (.next, ρ, σ)
    | f => some (f, ρ, σ)
def itemsV : V → Option (List V)
  | .list vs => some vs | .str s => some (s.map fun c => .str [c]) | _ => .none
def rangeUp (a : Int) (n : Nat) : List V := (List.range n).map fun (k : Nat) => .int (a + (k : Int))
def rangeDown (a : Int) (n : Nat) : List V := (List.range n).map fun (k : Nat) => .int (a - (k : Int))
def rangeV (down : Bool) : V → V → Option (List V)
  | .int a, .int b => if small a && small b then some (if down then rangeDown a (a - b).toNat else rangeUp a (b - a).toNat) else .none
  | _, _ => .none
def FUEL : Nat := 1000
def exec : S → List V → Sta → Out
  | .skip, ρ, σ => some (.next, ρ, σ)
  | .seq a b, ρ, σ => do
    let (f, ρ, σ) ← exec a ρ σ
    match f with
    | .next => exec b ρ σ
    | f => some (f, ρ, σ)
  | .asg i a, ρ, σ => do
    let (x, σ) ← evalX Φ ρ a σ
    some (.next, ← setL ρ i x, σ)
  | .asg2 i j a, ρ, σ => do
    let (x, σ) ← evalX Φ ρ a σ
    match x with
    | .tup [x, y] => some (.next, ← setL (← setL ρ i x) j y, σ)
    | _ => .none
  | .aug i o a, ρ, σ => do
    let x ← locV ρ i
    let (y, σ) ← evalX Φ ρ a σ
    some (.next, ← setL ρ i (← binV o x y), σ)
  | .setf i f a, ρ, σ => do
    let (x, σ) ← evalX Φ ρ a σ
    match locV ρ i, σ with
    | some .slf, some s => if flat x then some (.next, ρ, some (s.put x f)) else .none
    | _, _ => .none
  | .augf i f o a, ρ, σ => match locV ρ i, σ with
    | some .slf, some s => do
      let x ← s.get f
      let (y, σ) ← evalX Φ ρ a σ
      let z ← binV o x y
      match σ with
      | some s => some (.next, ρ, some (s.put z f))
      | _ => .none
    | _, _ => .none
  | .ife t a b, ρ, σ => do
    let (c, σ) ← evalT Φ ρ t σ
    if c then exec a ρ σ else exec b ρ σ
  | .whl t a, ρ, σ => iterW (fun ρ σ => evalT Φ ρ t σ) (fun ρ σ => exec a ρ σ) FUEL ρ σ
  | .forx i a b, ρ, σ => do
    let (x, σ) ← evalX Φ ρ a σ
    let vs ← itemsV x
    iterF i (fun ρ σ => exec b ρ σ) vs ρ σ
  | .forr i lo hi d b, ρ, σ => do
    let (x, σ) ← evalX Φ ρ lo σ
    let (y, σ) ← evalX Φ ρ hi σ
    let vs ← rangeV d x y
    iterF i (fun ρ σ => exec b ρ σ) vs ρ σ
  | .ret a, ρ, σ => do
    let (x, σ) ← evalX Φ ρ a σ
    some (.ret x, ρ, σ)
  | .brk, ρ, σ => some (.brk, ρ, σ)
  | .cont, ρ, σ => some (.cont, ρ, σ)
  | .expr a, ρ, σ => do
    let (_, σ) ← evalX Φ ρ a σ
    some (.next, ρ, σ)
  | .asrt t, ρ, σ => do
    let (c, σ) ← evalT Φ ρ t σ
    if c then some (.next, ρ, σ) else .none
  | .tryx k a, ρ, σ => do
    let (f, ρ, σ) ← exec a ρ σ
    match f with
    | .exc j => if j = k then some (.next, ρ, σ) else .none
    | f => some (f, ρ, σ)
  | .raise k, ρ, σ => some (.exc k, ρ, σ)
end

/-- a def of the text: how many parameters, how many locals in all, its body; or the one def that is walked by hand -/
inductive Fn where
  | ir (np nl : Nat) (body : S)
  | marked
  deriving Inhabited
def markTx : Tx → Tx → Tx
  | _, [] => []
  | acc, c :: r => let d := if c = 121 ∧ (acc = [] ∨ vowelTx.contains [acc.headD 0]) then 89 else c
    d :: markTx (d :: acc) r
def markedV : V → Option V
  | .str s => if s.length ≤ 1000 then some (.list ((markTx [] s).map fun c => .str [c])) else .none
  | _ => .none
def retOf : Out → Option (V × Sta)
  | some (.ret v, _, σ) => some (v, σ)
  | some (.next, _, σ) => some (.none, σ)
  | _ => .none
def callN (fns : List Fn) : Nat → Nat → List V → Sta → Option (V × Sta)
  | 0, _, _, _ => .none
  | d + 1, f, as, σ => match fns[f]? with
    | some (.ir np nl body) => if as.length = np then retOf (exec (callN fns d) body (as ++ List.replicate (nl - np) .undef) σ) else .none
    | some .marked => match as with
      | [v] => (markedV v).map fun x => (x, σ)
      | _ => .none
    | .none => .none
end Mine
end

section
namespace Mine
-- in_grouping ['self', 's']
def b0 : S := (.seq (.ife (.x (.cmp .ge (.fld 0 .c) (.fld 0 .l))) (.seq (.ret (.cst (.bool false))) .skip) .skip) (.seq (.ife (.x (.inset true (.idx (.fld 0 .cur) (.fld 0 .c)) (.loc 1))) (.seq (.ret (.cst (.bool false))) .skip) .skip) (.seq (.augf 0 .c .add (.cst (.int 1))) (.seq (.ret (.cst (.bool true))) .skip))))
def fn0 : Fn := .ir 2 2 b0
def nm0 : List String := ["self", "s"]
-- go_in_grouping ['self', 's']
def b1 : S := (.seq (.whl (.x (.cmp .lt (.fld 0 .c) (.fld 0 .l))) (.seq (.ife (.x (.inset true (.idx (.fld 0 .cur) (.fld 0 .c)) (.loc 1))) (.seq (.ret (.cst (.bool true))) .skip) .skip) (.seq (.augf 0 .c .add (.cst (.int 1))) .skip))) (.seq (.ret (.cst (.bool false))) .skip))
def fn1 : Fn := .ir 2 2 b1
def nm1 : List String := ["self", "s"]
-- in_grouping_b ['self', 's']
def b2 : S := (.seq (.ife (.x (.cmp .le (.fld 0 .c) (.fld 0 .lb))) (.seq (.ret (.cst (.bool false))) .skip) .skip) (.seq (.ife (.x (.inset true (.idx (.fld 0 .cur) (.bin .sub (.fld 0 .c) (.cst (.int 1)))) (.loc 1))) (.seq (.ret (.cst (.bool false))) .skip) .skip) (.seq (.augf 0 .c .sub (.cst (.int 1))) (.seq (.ret (.cst (.bool true))) .skip))))
def fn2 : Fn := .ir 2 2 b2
def nm2 : List String := ["self", "s"]
-- go_out_grouping ['self', 's']
def b3 : S := (.seq (.whl (.x (.cmp .lt (.fld 0 .c) (.fld 0 .l))) (.seq (.ife (.x (.inset false (.idx (.fld 0 .cur) (.fld 0 .c)) (.loc 1))) (.seq (.ret (.cst (.bool true))) .skip) .skip) (.seq (.augf 0 .c .add (.cst (.int 1))) .skip))) (.seq (.ret (.cst (.bool false))) .skip))
def fn3 : Fn := .ir 2 2 b3
def nm3 : List String := ["self", "s"]
-- out_grouping_b ['self', 's']
def b4 : S := (.seq (.ife (.x (.cmp .le (.fld 0 .c) (.fld 0 .lb))) (.seq (.ret (.cst (.bool false))) .skip) .skip) (.seq (.ife (.x (.inset true (.idx (.fld 0 .cur) (.bin .sub (.fld 0 .c) (.cst (.int 1)))) (.loc 1))) (.seq (.augf 0 .c .sub (.cst (.int 1))) (.seq (.ret (.cst (.bool true))) .skip)) .skip) (.seq (.ret (.cst (.bool false))) .skip)))
def fn4 : Fn := .ir 2 2 b4
def nm4 : List String := ["self", "s"]
-- go_out_grouping_b ['self', 's']
def b5 : S := (.seq (.whl (.x (.cmp .gt (.fld 0 .c) (.fld 0 .lb))) (.seq (.ife (.x (.inset false (.idx (.fld 0 .cur) (.bin .sub (.fld 0 .c) (.cst (.int 1)))) (.loc 1))) (.seq (.ret (.cst (.bool true))) .skip) .skip) (.seq (.augf 0 .c .sub (.cst (.int 1))) .skip))) (.seq (.ret (.cst (.bool false))) .skip))
def fn5 : Fn := .ir 2 2 b5
def nm5 : List String := ["self", "s"]
-- find_among_b ['self', 'v', 'i', 'j', 'c', 'lb', 'common_i', 'common_j', 'first_key_inspected', 'k', 'diff', 'common', 'w', 'i2']
def b6 : S := (.seq (.asg 2 (.cst (.int 0))) (.seq (.asg 3 (.len (.loc 1))) (.seq (.asg 4 (.fld 0 .c)) (.seq (.asg 5 (.fld 0 .lb)) (.seq (.asg 6 (.cst (.int 0))) (.seq (.asg 7 (.cst (.int 0))) (.seq (.asg 8 (.cst (.bool false))) (.seq (.whl (.x (.cst (.bool true))) (.seq (.asg 9 (.bin .add (.loc 2) (.bin .shr (.bin .sub (.loc 3) (.loc 2)) (.cst (.int 1))))) (.seq (.asg 10 (.cst (.int 0))) (.seq (.asg 11 (.min (.loc 6) (.loc 7))) (.seq (.asg 12 (.idx (.loc 1) (.loc 9))) (.seq (.forr 13 (.bin .sub (.bin .sub (.len (.aat 12 0)) (.cst (.int 1))) (.loc 11)) (.neg (.cst (.int 1))) true (.seq (.ife (.x (.cmp .eq (.bin .sub (.loc 4) (.loc 11)) (.loc 5))) (.seq (.asg 10 (.neg (.cst (.int 1)))) (.seq .brk .skip)) .skip) (.seq (.asg 10 (.bin .sub (.ord (.idx (.fld 0 .cur) (.bin .sub (.bin .sub (.loc 4) (.cst (.int 1))) (.loc 11)))) (.ord (.idx (.aat 12 0) (.loc 13))))) (.seq (.ife (.x (.cmp .ne (.loc 10) (.cst (.int 0)))) (.seq .brk .skip) .skip) (.seq (.aug 11 .add (.cst (.int 1))) .skip))))) (.seq (.ife (.x (.cmp .lt (.loc 10) (.cst (.int 0)))) (.seq (.asg 3 (.loc 9)) (.seq (.asg 7 (.loc 11)) .skip)) (.seq (.asg 2 (.loc 9)) (.seq (.asg 6 (.loc 11)) .skip))) (.seq (.ife (.x (.cmp .le (.bin .sub (.loc 3) (.loc 2)) (.cst (.int 1)))) (.seq (.ife (.x (.cmp .gt (.loc 2) (.cst (.int 0)))) (.seq .brk .skip) .skip) (.seq (.ife (.x (.cmp .eq (.loc 3) (.loc 2))) (.seq .brk .skip) .skip) (.seq (.ife (.x (.loc 8)) (.seq .brk .skip) .skip) (.seq (.asg 8 (.cst (.bool true))) .skip)))) .skip) .skip)))))))) (.seq (.whl (.x (.cst (.bool true))) (.seq (.asg 12 (.idx (.loc 1) (.loc 2))) (.seq (.ife (.x (.cmp .ge (.loc 6) (.len (.aat 12 0)))) (.seq (.setf 0 .c (.bin .sub (.loc 4) (.len (.aat 12 0)))) (.seq (.ret (.aat 12 2)) .skip)) .skip) (.seq (.asg 2 (.aat 12 1)) (.seq (.ife (.x (.cmp .lt (.loc 2) (.cst (.int 0)))) (.seq (.ret (.cst (.int 0))) .skip) .skip) .skip))))) (.seq (.ret (.neg (.cst (.int 1)))) .skip))))))))))
def fn6 : Fn := .ir 2 14 b6
def nm6 : List String := ["self", "v", "i", "j", "c", "lb", "common_i", "common_j", "first_key_inspected", "k", "diff", "common", "w", "i2"]
-- replace_s ['self', 'c_bra', 'c_ket', 's', 'adjustment']
def b7 : S := (.seq (.asg 4 (.bin .sub (.len (.loc 3)) (.bin .sub (.loc 2) (.loc 1)))) (.seq (.setf 0 .cur (.bin .add (.bin .add (.slc (.fld 0 .cur) (.cst (.int 0)) (.loc 1)) (.loc 3)) (.slc (.fld 0 .cur) (.loc 2) (.cst .none)))) (.seq (.augf 0 .l .add (.loc 4)) (.seq (.ife (.x (.cmp .ge (.fld 0 .c) (.loc 2))) (.seq (.augf 0 .c .add (.loc 4)) .skip) (.seq (.ife (.x (.cmp .gt (.fld 0 .c) (.loc 1))) (.seq (.setf 0 .c (.loc 1)) .skip) .skip) .skip)) (.seq (.ret (.loc 4)) .skip)))))
def fn7 : Fn := .ir 4 5 b7
def nm7 : List String := ["self", "c_bra", "c_ket", "s", "adjustment"]
-- slice_from ['self', 's']
def b8 : S := (.seq (.asrt (.x (.cmp .ge (.fld 0 .bra) (.cst (.int 0))))) (.seq (.asrt (.x (.cmp .le (.fld 0 .bra) (.fld 0 .ket)))) (.seq (.asrt (.x (.cmp .le (.fld 0 .ket) (.fld 0 .l)))) (.seq (.asrt (.x (.cmp .le (.fld 0 .l) (.len (.fld 0 .cur))))) (.seq (.expr (.meth 7 0 (.cons (.fld 0 .bra) (.cons (.fld 0 .ket) (.cons (.loc 1) .nil))))) (.seq (.setf 0 .ket (.bin .add (.fld 0 .bra) (.len (.loc 1)))) .skip))))))
def fn8 : Fn := .ir 2 2 b8
def nm8 : List String := ["self", "s"]
-- slice_del ['self']
def b9 : S := (.seq (.ret (.meth 8 0 (.cons (.cst (.str [])) .nil))) .skip)
def fn9 : Fn := .ir 1 1 b9
def nm9 : List String := ["self"]
-- insert ['self', 'c_bra', 'c_ket', 's', 'adjustment']
def b10 : S := (.seq (.asg 4 (.meth 7 0 (.cons (.loc 1) (.cons (.loc 2) (.cons (.loc 3) .nil))))) (.seq (.ife (.x (.cmp .le (.loc 1) (.fld 0 .bra))) (.seq (.augf 0 .bra .add (.loc 4)) .skip) .skip) (.seq (.ife (.x (.cmp .le (.loc 1) (.fld 0 .ket))) (.seq (.augf 0 .ket .add (.loc 4)) .skip) .skip) .skip)))
def fn10 : Fn := .ir 4 5 b10
def nm10 : List String := ["self", "c_bra", "c_ket", "s", "adjustment"]
-- set_current ['self', 'value']
def b11 : S := (.seq (.setf 0 .cur (.loc 1)) (.seq (.setf 0 .c (.cst (.int 0))) (.seq (.setf 0 .l (.len (.fld 0 .cur))) (.seq (.setf 0 .lb (.cst (.int 0))) (.seq (.setf 0 .bra (.fld 0 .c)) (.seq (.setf 0 .ket (.fld 0 .l)) .skip))))))
def fn11 : Fn := .ir 2 2 b11
def nm11 : List String := ["self", "value"]
-- get_current ['self']
def b12 : S := (.seq (.ret (.fld 0 .cur)) .skip)
def fn12 : Fn := .ir 1 1 b12
def nm12 : List String := ["self"]
-- __init__ ['self']
def b13 : S := (.seq (.expr (.meth 11 0 (.cons (.cst (.str [])) .nil))) .skip)
def fn13 : Fn := .ir 1 1 b13
def nm13 : List String := ["self"]
-- stemWord ['self', 'word']
def b14 : S := (.seq (.expr (.meth 11 0 (.cons (.loc 1) .nil))) (.seq (.expr (.meth 26 0 .nil)) (.seq (.ret (.meth 12 0 .nil)) .skip)))
def fn14 : Fn := .ir 2 2 b14
def nm14 : List String := ["self", "word"]
-- r_shortv ['self']
def b15 : S := (.seq (.ife (.not (.x (.meth 4 0 (.cons (.glb 1) .nil)))) (.seq (.ret (.cst (.bool false))) .skip) .skip) (.seq (.ife (.not (.x (.meth 2 0 (.cons (.glb 0) .nil)))) (.seq (.ret (.cst (.bool false))) .skip) .skip) (.seq (.ret (.meth 4 0 (.cons (.glb 0) .nil))) .skip)))
def fn15 : Fn := .ir 1 1 b15
def nm15 : List String := ["self"]
-- r_R1 ['self']
def b16 : S := (.seq (.ret (.cmp .le (.fld 0 .p1) (.fld 0 .c))) .skip)
def fn16 : Fn := .ir 1 1 b16
def nm16 : List String := ["self"]
-- r_R2 ['self']
def b17 : S := (.seq (.ret (.cmp .le (.fld 0 .p2) (.fld 0 .c))) .skip)
def fn17 : Fn := .ir 1 1 b17
def nm17 : List String := ["self"]
-- r_Step_1a ['self', 'among_var']
def b18 : S := (.seq (.setf 0 .ket (.fld 0 .c)) (.seq (.asg 1 (.meth 6 0 (.cons (.glb 2) .nil))) (.seq (.ife (.x (.cmp .eq (.loc 1) (.cst (.int 0)))) (.seq (.ret (.cst (.bool false))) .skip) .skip) (.seq (.setf 0 .bra (.fld 0 .c)) (.seq (.ife (.x (.cmp .gt (.loc 1) (.cst (.int 0)))) (.seq (.expr (.meth 8 0 (.cons (.idx (.glb 8) (.bin .sub (.loc 1) (.cst (.int 1)))) .nil))) .skip) .skip) (.seq (.ret (.cst (.bool true))) .skip))))))
def fn18 : Fn := .ir 1 2 b18
def nm18 : List String := ["self", "among_var"]
-- r_Step_1b ['self', 'among_var', 'v_1', 'v_2', 'c', 'v_3']
def b19 : S := (.seq (.setf 0 .ket (.fld 0 .c)) (.seq (.asg 1 (.meth 6 0 (.cons (.glb 4) .nil))) (.seq (.ife (.x (.cmp .eq (.loc 1) (.cst (.int 0)))) (.seq (.ret (.cst (.bool false))) .skip) .skip) (.seq (.setf 0 .bra (.fld 0 .c)) (.seq (.ife (.x (.cmp .eq (.loc 1) (.cst (.int 1)))) (.seq (.ife (.not (.x (.meth 16 0 .nil))) (.seq (.ret (.cst (.bool false))) .skip) .skip) (.seq (.expr (.meth 8 0 (.cons (.cst (.str [101, 101])) .nil))) .skip)) (.seq (.asg 2 (.bin .sub (.fld 0 .l) (.fld 0 .c))) (.seq (.ife (.not (.x (.meth 5 0 (.cons (.glb 0) .nil)))) (.seq (.ret (.cst (.bool false))) .skip) .skip) (.seq (.augf 0 .c .sub (.cst (.int 1))) (.seq (.setf 0 .c (.bin .sub (.fld 0 .l) (.loc 2))) (.seq (.expr (.meth 9 0 .nil)) (.seq (.asg 3 (.bin .sub (.fld 0 .l) (.fld 0 .c))) (.seq (.asg 1 (.meth 6 0 (.cons (.glb 3) .nil))) (.seq (.setf 0 .c (.bin .sub (.fld 0 .l) (.loc 3))) (.seq (.ife (.x (.cmp .eq (.loc 1) (.cst (.int 1)))) (.seq (.asg 4 (.fld 0 .c)) (.seq (.expr (.meth 10 0 (.cons (.fld 0 .c) (.cons (.fld 0 .c) (.cons (.cst (.str [101])) .nil))))) (.seq (.setf 0 .c (.loc 4)) .skip))) (.seq (.ife (.x (.cmp .eq (.loc 1) (.cst (.int 2)))) (.seq (.setf 0 .ket (.fld 0 .c)) (.seq (.ife (.x (.cmp .le (.fld 0 .c) (.fld 0 .lb))) (.seq (.ret (.cst (.bool false))) .skip) .skip) (.seq (.augf 0 .c .sub (.cst (.int 1))) (.seq (.setf 0 .bra (.fld 0 .c)) (.seq (.expr (.meth 9 0 .nil)) .skip))))) (.seq (.ife (.x (.cmp .ne (.fld 0 .c) (.fld 0 .p1))) (.seq (.ret (.cst (.bool false))) .skip) .skip) (.seq (.asg 5 (.bin .sub (.fld 0 .l) (.fld 0 .c))) (.seq (.ife (.not (.x (.meth 15 0 .nil))) (.seq (.ret (.cst (.bool false))) .skip) .skip) (.seq (.setf 0 .c (.bin .sub (.fld 0 .l) (.loc 5))) (.seq (.asg 4 (.fld 0 .c)) (.seq (.expr (.meth 10 0 (.cons (.fld 0 .c) (.cons (.fld 0 .c) (.cons (.cst (.str [101])) .nil))))) (.seq (.setf 0 .c (.loc 4)) .skip)))))))) .skip)) .skip)))))))))) (.seq (.ret (.cst (.bool true))) .skip))))))
def fn19 : Fn := .ir 1 6 b19
def nm19 : List String := ["self", "among_var", "v_1", "v_2", "c", "v_3"]
-- r_Step_1c ['self']
def b20 : S := (.seq (.setf 0 .ket (.fld 0 .c)) (.seq (.whl (.x (.cst (.bool true))) (.seq (.tryx 0 (.seq (.ife (.or (.x (.cmp .le (.fld 0 .c) (.fld 0 .lb))) (.or (.x (.cmp .ne (.idx (.fld 0 .cur) (.bin .sub (.fld 0 .c) (.cst (.int 1)))) (.cst (.str [121])))) .ff)) (.seq (.raise 0) .skip) .skip) (.seq (.augf 0 .c .sub (.cst (.int 1))) (.seq .brk .skip)))) (.seq (.ife (.or (.x (.cmp .le (.fld 0 .c) (.fld 0 .lb))) (.or (.x (.cmp .ne (.idx (.fld 0 .cur) (.bin .sub (.fld 0 .c) (.cst (.int 1)))) (.cst (.str [89])))) .ff)) (.seq (.ret (.cst (.bool false))) .skip) .skip) (.seq (.augf 0 .c .sub (.cst (.int 1))) (.seq .brk .skip))))) (.seq (.setf 0 .bra (.fld 0 .c)) (.seq (.ife (.not (.x (.meth 5 0 (.cons (.glb 0) .nil)))) (.seq (.ret (.cst (.bool false))) .skip) .skip) (.seq (.augf 0 .c .sub (.cst (.int 1))) (.seq (.expr (.meth 8 0 (.cons (.cst (.str [105])) .nil))) (.seq (.ret (.cst (.bool true))) .skip)))))))
def fn20 : Fn := .ir 1 1 b20
def nm20 : List String := ["self"]
-- r_Step_2 ['self', 'among_var']
def b21 : S := (.seq (.setf 0 .ket (.fld 0 .c)) (.seq (.asg 1 (.meth 6 0 (.cons (.glb 5) .nil))) (.seq (.ife (.x (.cmp .eq (.loc 1) (.cst (.int 0)))) (.seq (.ret (.cst (.bool false))) .skip) .skip) (.seq (.setf 0 .bra (.fld 0 .c)) (.seq (.ife (.not (.x (.meth 16 0 .nil))) (.seq (.ret (.cst (.bool false))) .skip) .skip) (.seq (.expr (.meth 8 0 (.cons (.idx (.glb 9) (.bin .sub (.loc 1) (.cst (.int 1)))) .nil))) (.seq (.ret (.cst (.bool true))) .skip)))))))
def fn21 : Fn := .ir 1 2 b21
def nm21 : List String := ["self", "among_var"]
-- r_Step_3 ['self', 'among_var']
def b22 : S := (.seq (.setf 0 .ket (.fld 0 .c)) (.seq (.asg 1 (.meth 6 0 (.cons (.glb 6) .nil))) (.seq (.ife (.x (.cmp .eq (.loc 1) (.cst (.int 0)))) (.seq (.ret (.cst (.bool false))) .skip) .skip) (.seq (.setf 0 .bra (.fld 0 .c)) (.seq (.ife (.not (.x (.meth 16 0 .nil))) (.seq (.ret (.cst (.bool false))) .skip) .skip) (.seq (.expr (.meth 8 0 (.cons (.idx (.glb 10) (.bin .sub (.loc 1) (.cst (.int 1)))) .nil))) (.seq (.ret (.cst (.bool true))) .skip)))))))
def fn22 : Fn := .ir 1 2 b22
def nm22 : List String := ["self", "among_var"]
-- r_Step_4 ['self', 'among_var']
def b23 : S := (.seq (.setf 0 .ket (.fld 0 .c)) (.seq (.asg 1 (.meth 6 0 (.cons (.glb 7) .nil))) (.seq (.ife (.x (.cmp .eq (.loc 1) (.cst (.int 0)))) (.seq (.ret (.cst (.bool false))) .skip) .skip) (.seq (.setf 0 .bra (.fld 0 .c)) (.seq (.ife (.not (.x (.meth 17 0 .nil))) (.seq (.ret (.cst (.bool false))) .skip) .skip) (.seq (.ife (.x (.cmp .eq (.loc 1) (.cst (.int 1)))) (.seq (.expr (.meth 9 0 .nil)) .skip) (.seq (.whl (.x (.cst (.bool true))) (.seq (.tryx 0 (.seq (.ife (.or (.x (.cmp .le (.fld 0 .c) (.fld 0 .lb))) (.or (.x (.cmp .ne (.idx (.fld 0 .cur) (.bin .sub (.fld 0 .c) (.cst (.int 1)))) (.cst (.str [115])))) .ff)) (.seq (.raise 0) .skip) .skip) (.seq (.augf 0 .c .sub (.cst (.int 1))) (.seq .brk .skip)))) (.seq (.ife (.or (.x (.cmp .le (.fld 0 .c) (.fld 0 .lb))) (.or (.x (.cmp .ne (.idx (.fld 0 .cur) (.bin .sub (.fld 0 .c) (.cst (.int 1)))) (.cst (.str [116])))) .ff)) (.seq (.ret (.cst (.bool false))) .skip) .skip) (.seq (.augf 0 .c .sub (.cst (.int 1))) (.seq .brk .skip))))) (.seq (.expr (.meth 9 0 .nil)) .skip))) (.seq (.ret (.cst (.bool true))) .skip)))))))
def fn23 : Fn := .ir 1 2 b23
def nm23 : List String := ["self", "among_var"]
-- r_Step_5a ['self', 'v_1']
def b24 : S := (.seq (.setf 0 .ket (.fld 0 .c)) (.seq (.ife (.or (.x (.cmp .le (.fld 0 .c) (.fld 0 .lb))) (.or (.x (.cmp .ne (.idx (.fld 0 .cur) (.bin .sub (.fld 0 .c) (.cst (.int 1)))) (.cst (.str [101])))) .ff)) (.seq (.ret (.cst (.bool false))) .skip) .skip) (.seq (.augf 0 .c .sub (.cst (.int 1))) (.seq (.setf 0 .bra (.fld 0 .c)) (.seq (.whl (.x (.cst (.bool true))) (.seq (.tryx 0 (.seq (.ife (.not (.x (.meth 17 0 .nil))) (.seq (.raise 0) .skip) .skip) (.seq .brk .skip))) (.seq (.ife (.not (.x (.meth 16 0 .nil))) (.seq (.ret (.cst (.bool false))) .skip) .skip) (.seq (.asg 1 (.bin .sub (.fld 0 .l) (.fld 0 .c))) (.seq (.tryx 0 (.seq (.ife (.not (.x (.meth 15 0 .nil))) (.seq (.raise 0) .skip) .skip) (.seq (.ret (.cst (.bool false))) .skip))) (.seq (.setf 0 .c (.bin .sub (.fld 0 .l) (.loc 1))) (.seq .brk .skip))))))) (.seq (.expr (.meth 9 0 .nil)) (.seq (.ret (.cst (.bool true))) .skip)))))))
def fn24 : Fn := .ir 1 2 b24
def nm24 : List String := ["self", "v_1"]
-- r_Step_5b ['self']
def b25 : S := (.seq (.setf 0 .ket (.fld 0 .c)) (.seq (.ife (.or (.x (.cmp .le (.fld 0 .c) (.fld 0 .lb))) (.or (.x (.cmp .ne (.idx (.fld 0 .cur) (.bin .sub (.fld 0 .c) (.cst (.int 1)))) (.cst (.str [108])))) .ff)) (.seq (.ret (.cst (.bool false))) .skip) .skip) (.seq (.augf 0 .c .sub (.cst (.int 1))) (.seq (.setf 0 .bra (.fld 0 .c)) (.seq (.ife (.not (.x (.meth 17 0 .nil))) (.seq (.ret (.cst (.bool false))) .skip) .skip) (.seq (.ife (.or (.x (.cmp .le (.fld 0 .c) (.fld 0 .lb))) (.or (.x (.cmp .ne (.idx (.fld 0 .cur) (.bin .sub (.fld 0 .c) (.cst (.int 1)))) (.cst (.str [108])))) .ff)) (.seq (.ret (.cst (.bool false))) .skip) .skip) (.seq (.augf 0 .c .sub (.cst (.int 1))) (.seq (.expr (.meth 9 0 .nil)) (.seq (.ret (.cst (.bool true))) .skip)))))))))
def fn25 : Fn := .ir 1 1 b25
def nm25 : List String := ["self"]
-- _stem ['self', 'B_Y_found', 'v_1', 'v_2', 'v_3', 'v_4', 'v_5', 'v_6', 'v_7', 'v_8', 'v_9', 'v_10', 'v_11', 'v_12', 'v_13', 'v_14', 'v_15', 'v_16']
def b26 : S := (.seq (.asg 1 (.cst (.bool false))) (.seq (.asg 2 (.fld 0 .c)) (.seq (.tryx 0 (.seq (.setf 0 .bra (.fld 0 .c)) (.seq (.ife (.or (.x (.cmp .eq (.fld 0 .c) (.fld 0 .l))) (.or (.x (.cmp .ne (.idx (.fld 0 .cur) (.fld 0 .c)) (.cst (.str [121])))) .ff)) (.seq (.raise 0) .skip) .skip) (.seq (.augf 0 .c .add (.cst (.int 1))) (.seq (.setf 0 .ket (.fld 0 .c)) (.seq (.expr (.meth 8 0 (.cons (.cst (.str [89])) .nil))) (.seq (.asg 1 (.cst (.bool true))) .skip))))))) (.seq (.setf 0 .c (.loc 2)) (.seq (.asg 3 (.fld 0 .c)) (.seq (.tryx 0 (.seq (.whl (.x (.cst (.bool true))) (.seq (.asg 4 (.fld 0 .c)) (.seq (.tryx 1 (.seq (.whl (.x (.cst (.bool true))) (.seq (.asg 5 (.fld 0 .c)) (.seq (.tryx 2 (.seq (.ife (.not (.x (.meth 0 0 (.cons (.glb 0) .nil)))) (.seq (.raise 2) .skip) .skip) (.seq (.setf 0 .bra (.fld 0 .c)) (.seq (.ife (.or (.x (.cmp .eq (.fld 0 .c) (.fld 0 .l))) (.or (.x (.cmp .ne (.idx (.fld 0 .cur) (.fld 0 .c)) (.cst (.str [121])))) .ff)) (.seq (.raise 2) .skip) .skip) (.seq (.augf 0 .c .add (.cst (.int 1))) (.seq (.setf 0 .ket (.fld 0 .c)) (.seq (.setf 0 .c (.loc 5)) (.seq .brk .skip)))))))) (.seq (.setf 0 .c (.loc 5)) (.seq (.ife (.x (.cmp .ge (.fld 0 .c) (.fld 0 .l))) (.seq (.raise 1) .skip) .skip) (.seq (.augf 0 .c .add (.cst (.int 1))) .skip)))))) (.seq (.expr (.meth 8 0 (.cons (.cst (.str [89])) .nil))) (.seq (.asg 1 (.cst (.bool true))) (.seq .cont .skip))))) (.seq (.setf 0 .c (.loc 4)) (.seq .brk .skip))))) .skip)) (.seq (.setf 0 .c (.loc 3)) (.seq (.setf 0 .p1 (.fld 0 .l)) (.seq (.setf 0 .p2 (.fld 0 .l)) (.seq (.asg 6 (.fld 0 .c)) (.seq (.tryx 0 (.seq (.ife (.not (.x (.meth 3 0 (.cons (.glb 0) .nil)))) (.seq (.raise 0) .skip) .skip) (.seq (.augf 0 .c .add (.cst (.int 1))) (.seq (.ife (.not (.x (.meth 1 0 (.cons (.glb 0) .nil)))) (.seq (.raise 0) .skip) .skip) (.seq (.augf 0 .c .add (.cst (.int 1))) (.seq (.setf 0 .p1 (.fld 0 .c)) (.seq (.ife (.not (.x (.meth 3 0 (.cons (.glb 0) .nil)))) (.seq (.raise 0) .skip) .skip) (.seq (.augf 0 .c .add (.cst (.int 1))) (.seq (.ife (.not (.x (.meth 1 0 (.cons (.glb 0) .nil)))) (.seq (.raise 0) .skip) .skip) (.seq (.augf 0 .c .add (.cst (.int 1))) (.seq (.setf 0 .p2 (.fld 0 .c)) .skip))))))))))) (.seq (.setf 0 .c (.loc 6)) (.seq (.setf 0 .lb (.fld 0 .c)) (.seq (.setf 0 .c (.fld 0 .l)) (.seq (.asg 7 (.bin .sub (.fld 0 .l) (.fld 0 .c))) (.seq (.expr (.meth 18 0 .nil)) (.seq (.setf 0 .c (.bin .sub (.fld 0 .l) (.loc 7))) (.seq (.asg 8 (.bin .sub (.fld 0 .l) (.fld 0 .c))) (.seq (.expr (.meth 19 0 .nil)) (.seq (.setf 0 .c (.bin .sub (.fld 0 .l) (.loc 8))) (.seq (.asg 9 (.bin .sub (.fld 0 .l) (.fld 0 .c))) (.seq (.expr (.meth 20 0 .nil)) (.seq (.setf 0 .c (.bin .sub (.fld 0 .l) (.loc 9))) (.seq (.asg 10 (.bin .sub (.fld 0 .l) (.fld 0 .c))) (.seq (.expr (.meth 21 0 .nil)) (.seq (.setf 0 .c (.bin .sub (.fld 0 .l) (.loc 10))) (.seq (.asg 11 (.bin .sub (.fld 0 .l) (.fld 0 .c))) (.seq (.expr (.meth 22 0 .nil)) (.seq (.setf 0 .c (.bin .sub (.fld 0 .l) (.loc 11))) (.seq (.asg 12 (.bin .sub (.fld 0 .l) (.fld 0 .c))) (.seq (.expr (.meth 23 0 .nil)) (.seq (.setf 0 .c (.bin .sub (.fld 0 .l) (.loc 12))) (.seq (.asg 13 (.bin .sub (.fld 0 .l) (.fld 0 .c))) (.seq (.expr (.meth 24 0 .nil)) (.seq (.setf 0 .c (.bin .sub (.fld 0 .l) (.loc 13))) (.seq (.asg 14 (.bin .sub (.fld 0 .l) (.fld 0 .c))) (.seq (.expr (.meth 25 0 .nil)) (.seq (.setf 0 .c (.bin .sub (.fld 0 .l) (.loc 14))) (.seq (.setf 0 .c (.fld 0 .lb)) (.seq (.asg 15 (.fld 0 .c)) (.seq (.tryx 0 (.seq (.ife (.not (.x (.loc 1))) (.seq (.raise 0) .skip) .skip) (.seq (.whl (.x (.cst (.bool true))) (.seq (.asg 16 (.fld 0 .c)) (.seq (.tryx 1 (.seq (.whl (.x (.cst (.bool true))) (.seq (.asg 17 (.fld 0 .c)) (.seq (.tryx 2 (.seq (.setf 0 .bra (.fld 0 .c)) (.seq (.ife (.or (.x (.cmp .eq (.fld 0 .c) (.fld 0 .l))) (.or (.x (.cmp .ne (.idx (.fld 0 .cur) (.fld 0 .c)) (.cst (.str [89])))) .ff)) (.seq (.raise 2) .skip) .skip) (.seq (.augf 0 .c .add (.cst (.int 1))) (.seq (.setf 0 .ket (.fld 0 .c)) (.seq (.setf 0 .c (.loc 17)) (.seq .brk .skip))))))) (.seq (.setf 0 .c (.loc 17)) (.seq (.ife (.x (.cmp .ge (.fld 0 .c) (.fld 0 .l))) (.seq (.raise 1) .skip) .skip) (.seq (.augf 0 .c .add (.cst (.int 1))) .skip)))))) (.seq (.expr (.meth 8 0 (.cons (.cst (.str [121])) .nil))) (.seq .cont .skip)))) (.seq (.setf 0 .c (.loc 16)) (.seq .brk .skip))))) .skip))) (.seq (.setf 0 .c (.loc 15)) (.seq (.ret (.cst (.bool true))) .skip)))))))))))))))))))))))))))))))))))))))))))
def fn26 : Fn := .ir 1 18 b26
def nm26 : List String := ["self", "B_Y_found", "v_1", "v_2", "v_3", "v_4", "v_5", "v_6", "v_7", "v_8", "v_9", "v_10", "v_11", "v_12", "v_13", "v_14", "v_15", "v_16"]
-- _law_PIECES []
def b27 : S := (.seq (.ret (.list (.cons (.cst (.str [97])) (.cons (.cst (.str [98])) (.cons (.cst (.str [99])) (.cons (.cst (.str [100])) (.cons (.cst (.str [101])) (.cons (.cst (.str [102])) (.cons (.cst (.str [103])) (.cons (.cst (.str [104])) (.cons (.cst (.str [105])) (.cons (.cst (.str [106])) (.cons (.cst (.str [107])) (.cons (.cst (.str [108])) (.cons (.cst (.str [109])) (.cons (.cst (.str [110])) (.cons (.cst (.str [111])) (.cons (.cst (.str [112])) (.cons (.cst (.str [113])) (.cons (.cst (.str [114])) (.cons (.cst (.str [115])) (.cons (.cst (.str [116])) (.cons (.cst (.str [117])) (.cons (.cst (.str [118])) (.cons (.cst (.str [119])) (.cons (.cst (.str [120])) (.cons (.cst (.str [121])) (.cons (.cst (.str [122])) (.cons (.cst (.str [39])) (.cons (.cst (.str [233])) (.cons (.cst (.str [115])) (.cons (.cst (.str [105, 101, 115])) (.cons (.cst (.str [115, 115, 101, 115])) (.cons (.cst (.str [115, 115])) (.cons (.cst (.str [101, 100])) (.cons (.cst (.str [101, 101, 100])) (.cons (.cst (.str [105, 110, 103])) (.cons (.cst (.str [98, 98])) (.cons (.cst (.str [100, 100])) (.cons (.cst (.str [102, 102])) (.cons (.cst (.str [103, 103])) (.cons (.cst (.str [98, 108])) (.cons (.cst (.str [109, 109])) (.cons (.cst (.str [110, 110])) (.cons (.cst (.str [112, 112])) (.cons (.cst (.str [114, 114])) (.cons (.cst (.str [97, 116])) (.cons (.cst (.str [116, 116])) (.cons (.cst (.str [105, 122])) (.cons (.cst (.str [97, 121])) (.cons (.cst (.str [101, 121])) (.cons (.cst (.str [121, 121])) (.cons (.cst (.str [97, 110, 99, 105])) (.cons (.cst (.str [101, 110, 99, 105])) (.cons (.cst (.str [97, 98, 108, 105])) (.cons (.cst (.str [101, 108, 105])) (.cons (.cst (.str [97, 108, 108, 105])) (.cons (.cst (.str [111, 117, 115, 108, 105])) (.cons (.cst (.str [101, 110, 116, 108, 105])) (.cons (.cst (.str [97, 108, 105, 116, 105])) (.cons (.cst (.str [98, 105, 108, 105, 116, 105])) (.cons (.cst (.str [105, 118, 105, 116, 105])) (.cons (.cst (.str [116, 105, 111, 110, 97, 108])) (.cons (.cst (.str [97, 116, 105, 111, 110, 97, 108])) (.cons (.cst (.str [97, 108, 105, 115, 109])) (.cons (.cst (.str [97, 116, 105, 111, 110])) (.cons (.cst (.str [105, 122, 97, 116, 105, 111, 110])) (.cons (.cst (.str [105, 122, 101, 114])) (.cons (.cst (.str [97, 116, 111, 114])) (.cons (.cst (.str [105, 118, 101, 110, 101, 115, 115])) (.cons (.cst (.str [102, 117, 108, 110, 101, 115, 115])) (.cons (.cst (.str [111, 117, 115, 110, 101, 115, 115])) (.cons (.cst (.str [105, 99, 97, 116, 101])) (.cons (.cst (.str [97, 116, 105, 118, 101])) (.cons (.cst (.str [97, 108, 105, 122, 101])) (.cons (.cst (.str [105, 99, 105, 116, 105])) (.cons (.cst (.str [105, 99, 97, 108])) (.cons (.cst (.str [102, 117, 108])) (.cons (.cst (.str [110, 101, 115, 115])) (.cons (.cst (.str [105, 99])) (.cons (.cst (.str [97, 110, 99, 101])) (.cons (.cst (.str [101, 110, 99, 101])) (.cons (.cst (.str [97, 98, 108, 101])) (.cons (.cst (.str [105, 98, 108, 101])) (.cons (.cst (.str [97, 116, 101])) (.cons (.cst (.str [105, 118, 101])) (.cons (.cst (.str [105, 122, 101])) (.cons (.cst (.str [105, 116, 105])) (.cons (.cst (.str [97, 108])) (.cons (.cst (.str [105, 115, 109])) (.cons (.cst (.str [115, 105, 111, 110])) (.cons (.cst (.str [116, 105, 111, 110])) (.cons (.cst (.str [101, 114])) (.cons (.cst (.str [111, 117, 115])) (.cons (.cst (.str [97, 110, 116])) (.cons (.cst (.str [101, 110, 116])) (.cons (.cst (.str [109, 101, 110, 116])) (.cons (.cst (.str [101, 109, 101, 110, 116])) (.cons (.cst (.str [111, 117])) (.cons (.cst (.str [108, 108])) (.cons (.cst (.str [101])) (.cons (.cst (.str [114, 101, 108])) (.cons (.cst (.str [116, 97, 110])) (.cons (.cst (.str [104, 111, 112])) (.cons (.cst (.str [101, 101])) .nil))))))))))))))))))))))))))))))))))))))))))))))))))))))))))))))))))))))))))))))))))))))))))))))))))))))))) .skip)
def fn27 : Fn := .ir 0 0 b27
def nm27 : List String := []
-- _law_vowel ['sign']
def b28 : S := (.seq (.ret (.inl (.loc 0) [[97], [101], [105], [111], [117], [121]])) .skip)
def fn28 : Fn := .ir 1 1 b28
def nm28 : List String := ["sign"]
def fn29 : Fn := .marked
def nm29 : List String := ["text"]
-- _law_region ['marked', 'start', 'i']
def b30 : S := (.seq (.forr 2 (.bin .add (.loc 1) (.cst (.int 1))) (.len (.loc 0)) false (.seq (.ife (.and (.x (.call 28 (.cons (.idx (.loc 0) (.bin .sub (.loc 2) (.cst (.int 1)))) .nil))) (.and (.not (.x (.call 28 (.cons (.idx (.loc 0) (.loc 2)) .nil)))) .tt)) (.seq (.ret (.bin .add (.loc 2) (.cst (.int 1)))) .skip) .skip) .skip)) (.seq (.ret (.len (.loc 0))) .skip))
def fn30 : Fn := .ir 2 3 b30
def nm30 : List String := ["marked", "start", "i"]
-- _law_short ['marked', 'k']
def b31 : S := (.seq (.asg 1 (.len (.loc 0))) (.seq (.ife (.or (.x (.cmp .lt (.loc 1) (.cst (.int 3)))) (.or (.x (.inl (.idx (.loc 0) (.bin .sub (.loc 1) (.cst (.int 1)))) [[119], [120], [89]])) (.or (.x (.call 28 (.cons (.idx (.loc 0) (.bin .sub (.loc 1) (.cst (.int 1)))) .nil))) .ff))) (.seq (.ret (.cst (.bool false))) .skip) .skip) (.seq (.ret (.andv (.call 28 (.cons (.idx (.loc 0) (.bin .sub (.loc 1) (.cst (.int 2)))) .nil)) (.notv (.call 28 (.cons (.idx (.loc 0) (.bin .sub (.loc 1) (.cst (.int 3)))) .nil))))) .skip)))
def fn31 : Fn := .ir 1 2 b31
def nm31 : List String := ["marked", "k"]
-- _law_longest ['rows', 'text', 'best', 'row']
def b32 : S := (.seq (.asg 2 (.tup (.cons (.cst (.str [])) (.cons (.cst (.str [])) .nil)))) (.seq (.forx 3 (.loc 0) (.seq (.ife (.and (.x (.cmp .gt (.len (.idx (.loc 3) (.cst (.int 0)))) (.len (.idx (.loc 2) (.cst (.int 0)))))) (.and (.x (.endsw (.loc 1) (.idx (.loc 3) (.cst (.int 0))))) .tt)) (.seq (.asg 2 (.loc 3)) .skip) .skip) .skip)) (.seq (.ret (.loc 2)) .skip)))
def fn32 : Fn := .ir 2 4 b32
def nm32 : List String := ["rows", "text", "best", "row"]
-- _law_look ['text', 'marked', 'n', 'p1', 'p2', 'cut', 'left', 'row']
def b33 : S := (.seq (.asg 1 (.call 29 (.cons (.loc 0) .nil))) (.seq (.asg 2 (.len (.loc 0))) (.seq (.asg 3 (.call 30 (.cons (.loc 1) (.cons (.cst (.int 0)) .nil)))) (.seq (.asg 4 (.call 30 (.cons (.loc 1) (.cons (.loc 3) .nil)))) (.seq (.ife (.and (.x (.endsw (.loc 0) (.cst (.str [115])))) (.and (.not (.x (.endsw (.loc 0) (.cst (.str [115, 115]))))) .tt)) (.seq (.ife (.or (.x (.endsw (.loc 0) (.cst (.str [115, 115, 101, 115])))) (.or (.x (.endsw (.loc 0) (.cst (.str [105, 101, 115])))) .ff)) (.seq (.ret (.tup (.cons (.cst (.int 1)) (.cons (.slc (.loc 0) (.cst .none) (.bin .sub (.loc 2) (.cst (.int 2)))) .nil)))) .skip) .skip) (.seq (.ret (.tup (.cons (.cst (.int 1)) (.cons (.slc (.loc 0) (.cst .none) (.bin .sub (.loc 2) (.cst (.int 1)))) .nil)))) .skip)) .skip) (.seq (.ife (.x (.endsw (.loc 0) (.cst (.str [101, 101, 100])))) (.seq (.ife (.x (.cmp .le (.loc 3) (.bin .sub (.loc 2) (.cst (.int 3))))) (.seq (.ret (.tup (.cons (.cst (.int 2)) (.cons (.slc (.loc 0) (.cst .none) (.bin .sub (.loc 2) (.cst (.int 1)))) .nil)))) .skip) .skip) .skip) (.seq (.ife (.or (.x (.endsw (.loc 0) (.cst (.str [101, 100])))) (.or (.x (.endsw (.loc 0) (.cst (.str [105, 110, 103])))) .ff)) (.seq (.asg 5 (.bin .sub (.loc 2) (.cst (.int 3)))) (.seq (.ife (.x (.endsw (.loc 0) (.cst (.str [101, 100])))) (.seq (.asg 5 (.bin .sub (.loc 2) (.cst (.int 2)))) .skip) .skip) (.seq (.ife (.x (.anyV (.slc (.loc 1) (.cst .none) (.loc 5)))) (.seq (.asg 6 (.slc (.loc 0) (.cst .none) (.loc 5))) (.seq (.ife (.or (.x (.endsw (.loc 6) (.cst (.str [97, 116])))) (.or (.x (.endsw (.loc 6) (.cst (.str [98, 108])))) (.or (.x (.endsw (.loc 6) (.cst (.str [105, 122])))) .ff))) (.seq (.ret (.tup (.cons (.cst (.int 2)) (.cons (.bin .add (.loc 6) (.cst (.str [101]))) .nil)))) .skip) .skip) (.seq (.ife (.and (.x (.inl (.slc (.loc 6) (.bin .sub (.loc 5) (.cst (.int 1))) (.cst .none)) [[98], [100], [102], [103], [109], [110], [112], [114], [116]])) (.and (.x (.endsw (.slc (.loc 6) (.cst .none) (.bin .sub (.loc 5) (.cst (.int 1)))) (.slc (.loc 6) (.bin .sub (.loc 5) (.cst (.int 1))) (.cst .none)))) .tt)) (.seq (.ret (.tup (.cons (.cst (.int 2)) (.cons (.slc (.loc 6) (.cst .none) (.bin .sub (.loc 5) (.cst (.int 1)))) .nil)))) .skip) .skip) (.seq (.ife (.and (.x (.cmp .eq (.loc 5) (.loc 3))) (.and (.x (.call 31 (.cons (.slc (.loc 1) (.cst .none) (.loc 5)) .nil))) .tt)) (.seq (.ret (.tup (.cons (.cst (.int 2)) (.cons (.bin .add (.loc 6) (.cst (.str [101]))) .nil)))) .skip) .skip) (.seq (.ret (.tup (.cons (.cst (.int 2)) (.cons (.loc 6) .nil)))) .skip))))) .skip) .skip))) .skip) .skip)) (.seq (.ife (.and (.x (.endsw (.loc 0) (.cst (.str [121])))) (.and (.x (.anyV (.slc (.loc 1) (.cst .none) (.bin .sub (.loc 2) (.cst (.int 1)))))) .tt)) (.seq (.ret (.tup (.cons (.cst (.int 3)) (.cons (.bin .add (.slc (.loc 0) (.cst .none) (.bin .sub (.loc 2) (.cst (.int 1)))) (.cst (.str [105]))) .nil)))) .skip) .skip) (.seq (.asg 7 (.call 32 (.cons (.glb 11) (.cons (.loc 0) .nil)))) (.seq (.ife (.and (.x (.cmp .ne (.idx (.loc 7) (.cst (.int 0))) (.cst (.str [])))) (.and (.x (.cmp .le (.loc 3) (.bin .sub (.loc 2) (.len (.idx (.loc 7) (.cst (.int 0))))))) .tt)) (.seq (.ret (.tup (.cons (.cst (.int 4)) (.cons (.bin .add (.slc (.loc 0) (.cst .none) (.bin .sub (.loc 2) (.len (.idx (.loc 7) (.cst (.int 0)))))) (.idx (.loc 7) (.cst (.int 1)))) .nil)))) .skip) .skip) (.seq (.asg 7 (.call 32 (.cons (.glb 12) (.cons (.loc 0) .nil)))) (.seq (.ife (.and (.x (.cmp .ne (.idx (.loc 7) (.cst (.int 0))) (.cst (.str [])))) (.and (.x (.cmp .le (.loc 3) (.bin .sub (.loc 2) (.len (.idx (.loc 7) (.cst (.int 0))))))) .tt)) (.seq (.ret (.tup (.cons (.cst (.int 5)) (.cons (.bin .add (.slc (.loc 0) (.cst .none) (.bin .sub (.loc 2) (.len (.idx (.loc 7) (.cst (.int 0)))))) (.idx (.loc 7) (.cst (.int 1)))) .nil)))) .skip) .skip) (.seq (.asg 7 (.call 32 (.cons (.glb 13) (.cons (.loc 0) .nil)))) (.seq (.ife (.and (.x (.cmp .ne (.idx (.loc 7) (.cst (.int 0))) (.cst (.str [])))) (.and (.x (.cmp .le (.loc 4) (.bin .sub (.loc 2) (.len (.idx (.loc 7) (.cst (.int 0))))))) .tt)) (.seq (.asg 6 (.slc (.loc 0) (.cst .none) (.bin .sub (.loc 2) (.len (.idx (.loc 7) (.cst (.int 0))))))) (.seq (.ife (.or (.x (.cmp .ne (.idx (.loc 7) (.cst (.int 0))) (.cst (.str [105, 111, 110])))) (.or (.x (.endsw (.loc 6) (.cst (.str [115])))) (.or (.x (.endsw (.loc 6) (.cst (.str [116])))) .ff))) (.seq (.ret (.tup (.cons (.cst (.int 6)) (.cons (.loc 6) .nil)))) .skip) .skip) .skip)) .skip) (.seq (.ife (.x (.endsw (.loc 0) (.cst (.str [101])))) (.seq (.ife (.or (.x (.cmp .le (.loc 4) (.bin .sub (.loc 2) (.cst (.int 1))))) (.or (.and (.x (.cmp .le (.loc 3) (.bin .sub (.loc 2) (.cst (.int 1))))) (.and (.not (.x (.call 31 (.cons (.slc (.loc 1) (.cst .none) (.bin .sub (.loc 2) (.cst (.int 1)))) .nil)))) .tt)) .ff)) (.seq (.ret (.tup (.cons (.cst (.int 7)) (.cons (.slc (.loc 0) (.cst .none) (.bin .sub (.loc 2) (.cst (.int 1)))) .nil)))) .skip) .skip) .skip) .skip) (.seq (.ife (.and (.x (.endsw (.loc 0) (.cst (.str [108, 108])))) (.and (.x (.cmp .le (.loc 4) (.bin .sub (.loc 2) (.cst (.int 1))))) .tt)) (.seq (.ret (.tup (.cons (.cst (.int 8)) (.cons (.slc (.loc 0) (.cst .none) (.bin .sub (.loc 2) (.cst (.int 1)))) .nil)))) .skip) .skip) (.seq (.ret (.tup (.cons (.cst (.int 0)) (.cons (.loc 0) .nil)))) .skip))))))))))))))))
def fn33 : Fn := .ir 1 8 b33
def nm33 : List String := ["text", "marked", "n", "p1", "p2", "cut", "left", "row"]
-- law ['script', 'numbers', 'text', 'n', 'piece', 'st', 'turns', 'most', 'stem', 'step', 'left', 'after']
def b34 : S := (.seq (.asg 1 (.slc (.loc 0) (.cst .none) (.cst (.int 12)))) (.seq (.ife (.not (.x (.loc 1))) (.seq (.asg 1 (.list (.cons (.cst (.int 99)) (.cons (.cst (.int 63)) (.cons (.cst (.int 86)) .nil))))) .skip) .skip) (.seq (.asg 2 (.cst (.str []))) (.seq (.forx 3 (.loc 1) (.seq (.asg 4 (.idx (.call 27 .nil) (.bin .mod (.loc 3) (.len (.call 27 .nil))))) (.seq (.ife (.x (.cmp .le (.bin .add (.len (.loc 2)) (.len (.loc 4))) (.cst (.int 13)))) (.seq (.asg 2 (.bin .add (.loc 2) (.loc 4))) .skip) .skip) .skip))) (.seq (.asg 5 (.new 13)) (.seq (.asg 6 (.cst (.int 0))) (.seq (.asg 7 (.bin .mul (.cst (.int 2)) (.len (.loc 2)))) (.seq (.whl (.x (.cst (.bool true))) (.seq (.asg 8 (.meth 14 5 (.cons (.loc 2) .nil))) (.seq (.ife (.not (.x (.isStr (.loc 8)))) (.seq (.ret (.cst (.bool false))) .skip) .skip) (.seq (.asg2 9 10 (.call 33 (.cons (.loc 2) .nil))) (.seq (.ife (.x (.cmp .eq (.loc 9) (.cst (.int 0)))) (.seq (.ret (.cmp .eq (.loc 8) (.loc 2))) .skip) .skip) (.seq (.ife (.or (.x (.cmp .eq (.loc 8) (.loc 2))) (.or (.x (.cmp .gt (.len (.loc 8)) (.len (.loc 10)))) .ff)) (.seq (.ret (.cst (.bool false))) .skip) .skip) (.seq (.ife (.and (.x (.cmp .eq (.len (.loc 8)) (.len (.loc 2)))) (.and (.or (.x (.cmp .ne (.loc 9) (.cst (.int 3)))) (.or (.x (.cmp .ne (.loc 8) (.loc 10))) .ff)) .tt)) (.seq (.ret (.cst (.bool false))) .skip) .skip) (.seq (.ife (.x (.cmp .lt (.loc 6) (.cst (.int 3)))) (.seq (.asg 11 (.call 33 (.cons (.loc 10) .nil))) (.seq (.ife (.and (.or (.x (.cmp .eq (.idx (.loc 11) (.cst (.int 0))) (.cst (.int 0)))) (.or (.x (.cmp .gt (.idx (.loc 11) (.cst (.int 0))) (.loc 9))) .ff)) (.and (.x (.cmp .ne (.meth 14 5 (.cons (.loc 10) .nil)) (.loc 8))) .tt)) (.seq (.ret (.cst (.bool false))) .skip) .skip) .skip)) .skip) (.seq (.asg 6 (.bin .add (.loc 6) (.cst (.int 1)))) (.seq (.ife (.x (.cmp .gt (.loc 6) (.loc 7))) (.seq (.ret (.cst (.bool false))) .skip) .skip) (.seq (.asg 2 (.loc 8)) .skip))))))))))) .skip))))))))
def fn34 : Fn := .ir 1 12 b34
def nm34 : List String := ["script", "numbers", "text", "n", "piece", "st", "turns", "most", "stem", "step", "left", "after"]
def FNS : List Fn := [fn0, fn1, fn2, fn3, fn4, fn5, fn6, fn7, fn8, fn9, fn10, fn11, fn12, fn13, fn14, fn15, fn16, fn17, fn18, fn19, fn20, fn21, fn22, fn23, fn24, fn25, fn26, fn27, fn28, fn29, fn30, fn31, fn32, fn33, fn34]
end Mine
end

section
open PySem PySem.W PySem.Calls PyProof.Rows
set_option Elab.async false
set_option maxRecDepth 100000
set_option linter.unusedVariables false
namespace Mine

/-- the stemmer's two addresses, once it is made: the instance, its dict -/
abbrev G := Option (Addr × Addr)
def G.le (g g' : G) : Prop := ∀ p, g = some p → g' = some p
theorem G.le.refl (g : G) : G.le g g := fun _ h => h
theorem G.le.trans {a b c : G} (x : G.le a b) (y : G.le b c) : G.le a c := fun p h => y p (x p h)

def strOf (x : Tx) : Str := ⟨x.toArray⟩
theorem strOf_cps (x : Tx) : (strOf x).cps.toList = x := rfl
theorem strOf_len (x : Tx) : (strOf x).length = x.length := by show (x.toArray).size = _; rw [List.size_toArray]

/-- an instance of Among, among the objects of the top -/
def AmongAt (K : Frag) (a : Addr) (s : Tx) (sub res : Int) : Prop := s.length ≤ sizeMax ∧ ∃ d es n t1 t2 t3 sl, K.lookup a = some ⟨.ref 220, some d, .plain, sl⟩ ∧ K.lookup d = some (dictOf es n) ∧
  getL "s" es = some (some (.str (strOf s) t1)) ∧ getL "substring_i" es = some (some (.int sub t2)) ∧ getL "result" es = some (some (.int res t3))

/-- the heap bears the value -/
inductive Rv (K : Frag) (g : G) (h : Heap) : V → Value → Prop where
  | none : Rv K g h .none .none
  | bool (b : Bool) : Rv K g h (.bool b) (.bool b)
  | int (i : Int) (t : Tok) : Rv K g h (.int i) (.int i t)
  | str (x : Tx) (t : Tok) (hx : x.length ≤ sizeMax) : Rv K g h (.str x) (.str (strOf x) t)
  | list {vs : List V} {items : List Value} {a : Addr} (hl : h.IsList a items.toArray) (hn : items.length = vs.length) (hz : vs.length ≤ sizeMax) (hi : ∀ (i : Nat) (v : V) (x : Value), vs[i]? = some v → items[i]? = some x → Rv K g h v x) : Rv K g h (.list vs) (.ref a)
  | tup {vs : List V} {items : List Value} {a : Addr} (hl : IsTup h a items.toArray) (hn : items.length = vs.length) (hz : vs.length ≤ sizeMax) (hi : ∀ (i : Nat) (v : V) (x : Value), vs[i]? = some v → items[i]? = some x → Rv K g h v x) : Rv K g h (.tup vs) (.ref a)
  | slf {x d : Addr} (hg : g = some (x, d)) : Rv K g h .slf (.ref x)
  | set (k : Bool) : Rv K g h (.set k) (.ref (if k then 233 else 232))
  | among {s : Tx} {sub res : Int} {a : Addr} (hA : AmongAt K a s sub res) : Rv K g h (.among s sub res) (.ref a)

def keepD : Data → Bool
  | .dict .. => false
  | _ => true
/-- what a piece of the walk leaves alone: all but dicts; the dicts up to their slots, but for the stemmer's own -/
structure Ext (g : G) (h h' : Heap) : Prop where
  seq : ∀ b o, h.get? b = some o → keepD o.data = true → h'.get? b = some o
  dic : ∀ b o, h.get? b = some o → (∀ x, g ≠ some (x, b)) → ∃ sl, h'.get? b = some { o with slots := sl }
theorem Ext.refl (g : G) (h : Heap) : Ext g h h := ⟨fun _ _ e _ => e, fun _ o e _ => ⟨o.slots, e⟩⟩
theorem Ext.trans {g g' : G} {a b c : Heap} (x : Ext g a b) (l : G.le g g') (y : Ext g' b c) : Ext g' a c :=
  ⟨fun p o e k => y.seq p o (x.seq p o e k) k, fun p o e n => let ⟨_, e1⟩ := x.dic p o e (fun q hq => n q (l _ hq)); let ⟨sl, e2⟩ := y.dic p _ e1 n; ⟨sl, e2⟩⟩
theorem Ext.push (g : G) (h : Heap) (o : Obj) : Ext g h (h.push o) := ⟨fun _ _ e _ => Heap.get?_push_of_some _ e, fun _ o' e _ => ⟨o'.slots, Heap.get?_push_of_some _ e⟩⟩

theorem isList_keepS {h h' : Heap} {a : Addr} {items : Array Value} (x : ∀ b o xs n, h.get? b = some o → o.data = .seq xs n → h'.get? b = some o) (hl : h.IsList a items) : h'.IsList a items := by
  obtain ⟨o, ho, hc, n, hd⟩ := hl
  exact ⟨o, x a o _ _ ho hd, hc, n, hd⟩
theorem isTup_keepS {h h' : Heap} {a : Addr} {items : Array Value} (x : ∀ b o xs n, h.get? b = some o → o.data = .seq xs n → h'.get? b = some o) (hl : IsTup h a items) : IsTup h' a items := by
  obtain ⟨o, ho, hc, n, hd⟩ := hl
  exact ⟨o, x a o _ _ ho hd, hc, n, hd⟩
theorem Rv.keepS {K : Frag} {g g' : G} {h h' : Heap} (x : ∀ b o xs n, h.get? b = some o → o.data = .seq xs n → h'.get? b = some o) (hg : G.le g g') {v : V} {val : Value} (r : Rv K g h v val) : Rv K g' h' v val := by
  induction r with
  | none => exact .none
  | bool b => exact .bool b
  | int i t => exact .int i t
  | str s t hx => exact .str s t hx
  | list hl hn hz hi ih => exact .list (isList_keepS x hl) hn hz ih
  | tup hl hn hz hi ih => exact .tup (isTup_keepS x hl) hn hz ih
  | slf h => exact .slf (hg _ h)
  | set k => exact .set k
  | among hA => exact .among hA
theorem Rv.keep {K : Frag} {g g' : G} {h h' : Heap} (x : ∀ b o, h.get? b = some o → keepD o.data = true → h'.get? b = some o) (hg : G.le g g') {v : V} {val : Value} (r : Rv K g h v val) : Rv K g' h' v val :=
  r.keepS (fun b o xs n e hd => x b o e (by rw [hd]; rfl)) hg
theorem Rv.ext {K : Frag} {ge : G} {g g' : G} {h h' : Heap} (x : Ext ge h h') (hg : G.le g g') {v : V} {val : Value} (r : Rv K g h v val) : Rv K g' h' v val := r.keep x.seq hg

/-- the names of the stemmer's attributes -/
def Fld.name : Fld → Str
  | .cur => "current" | .c => "cursor" | .l => "limit" | .lb => "limit_backward" | .bra => "bra" | .ket => "ket" | .p1 => "I_p1" | .p2 => "I_p2"
def Fld.all : List Fld := [.cur, .c, .l, .lb, .bra, .ket, .p1, .p2]
def one (o : Option V) : Nat := if o.isSome then 1 else 0
def cnt (s : Stem) : Nat := one s.cur + one s.c + one s.l + one s.lb + one s.bra + one s.ket + one s.p1 + one s.p2
/-- the dict bears the attributes: each a number or a text, and no other name -/
structure Flds (K : Frag) (es : List DictEntry) (s : Stem) : Prop where
  val : ∀ f v, s.get f = some v → flat v = true ∧ ∃ val, getL f.name es = some (some val) ∧ ∀ g h, Rv K g h v val
  non : ∀ f, s.get f = .none → getL f.name es = some .none
  other : ∀ x : Str, (∀ f : Fld, x ≠ f.name) → getL x es = some .none
  keys : es.length = cnt s

structure SR (K : Frag) (hb : Heap) (g : G) (h : Heap) (σ : Sta) : Prop where
  non : σ = .none ↔ g = .none
  some : ∀ st x d, σ = some st → g = some (x, d) → hb.get? x = .none ∧ hb.get? d = .none ∧ x ≠ d ∧ h.get? x = some (instObj 527 d) ∧ ∃ es n, h.get? d = some (dictOf es n) ∧ Flds K es st
end Mine
end

section
open PySem PySem.W PySem.Calls PyProof.Rows
set_option Elab.async false
set_option maxRecDepth 100000
set_option linter.unusedVariables false
namespace Mine


/-- a frame of the walk: its def, its place, its callers, the names of its locals -/
structure FC where
  name : Str
  scope : Scope
  L : Addr
  a : Addr
  cd : Value
  outer : List Env
  nm : List Str
def FC.env (f : FC) : Env := envOf f.name f.scope f.L f.a f.cd
def FC.fs (f : FC) : List Addr := f.outer.filterMap (·.frame)

/-- what stands below the walk: the heap at the call's start, the written part of it -/
structure Wd where
  p : Program
  w : World
  hb : Heap
  K : Frag
  os : OsState
  mean : ExcName → Option Value
  mg : Str → Option Value
  mb : Str → Option Value
  Q : Program
  loose : List Str

def FO (W : Wd) (h : Heap) (L : Addr) (g : G) (outer : List Env) : Prop :=
  ∀ e ∈ outer, e.scope.kind ≠ .module ∧ ∃ Lf o, e.frame = some Lf ∧ W.hb.get? Lf = none ∧ Lf ≠ L ∧ (∀ x d, g = some (x, d) → d ≠ Lf) ∧ h.get? Lf = some o ∧ ∃ es n, o.data = .dict es n

structure At (W : Wd) (d : Nat) (f : FC) (A : Around) (s : Shared) (ρ : List V) (σ : Sta) (g : G) : Prop where
  fr : ∃ m, Fr W.hb f.L s.heap m ∧ ∀ (i : Nat) (x : Str) (v : V), f.nm[i]? = some x → ρ[i]? = some v → v ≠ .undef → ∃ val, m x = some val ∧ Rv W.K g s.heap v val
  len : ρ.length = f.nm.length
  fo : FO W s.heap f.L g f.outer
  sr : SR W.K W.hb g s.heap σ
  off : ∀ x d, g = some (x, d) → x ≠ f.L ∧ d ≠ f.L
  gens : s.gens = #[]
  os : s.os = W.os
  kind : f.scope.kind = .function
  handled : A.handled = none
  frames : A.frames = some (f.env :: f.outer)
  depth : A.depth + 4 * d + 8 ≤ 1000
  units : A.units + 16 * d + 64 ≤ 9900

theorem ext_grow (g : G) {h h' : Heap} (k : ∀ b o, h.get? b = some o → h'.get? b = some o) : Ext g h h' := ⟨fun b o e _ => k b o e, fun b o e _ => ⟨o.slots, k b o e⟩⟩
theorem fr_grow {hb h h' : Heap} {L : Addr} {m : Str → Option Value} (F : Fr hb L h m) (k : ∀ b o, h.get? b = some o → h'.get? b = some o) : Fr hb L h' m := by
  obtain ⟨⟨o, es, ep, ho, r⟩, keep, ab⟩ := F
  exact ⟨⟨o, es, ep, k _ _ ho, r⟩, fun b o e => k b o (keep b o e), ab⟩
theorem sr_grow {K : Frag} {hb h h' : Heap} {g : G} {σ : Sta} (x : SR K hb g h σ) (k : ∀ b o, h.get? b = some o → h'.get? b = some o) : SR K hb g h' σ :=
  ⟨x.non, fun st y d h1 h2 => let ⟨a, b, c, e, es, n, q, r⟩ := x.some st y d h1 h2; ⟨a, b, c, k _ _ e, es, n, k _ _ q, r⟩⟩
theorem fo_grow {W : Wd} {h h' : Heap} {L : Addr} {g : G} {outer : List Env} (x : FO W h L g outer) (k : ∀ b o, h.get? b = some o → h'.get? b = some o) : FO W h' L g outer := fun e he =>
  let ⟨a, Lf, o, b, c, d, dd, q, r⟩ := x e he; ⟨a, Lf, o, b, c, d, dd, k _ _ q, r⟩
theorem At.grow {W : Wd} {d : Nat} {f : FC} {A : Around} {s : Shared} {ρ : List V} {σ : Sta} {g : G} (a : At W d f A s ρ σ g) {h' : Heap} {n : Nat} (k : ∀ b o, s.heap.get? b = some o → h'.get? b = some o) :
    At W d f A { s with heap := h', toks := n } ρ σ g := by
  obtain ⟨m, F, l⟩ := a.fr
  exact { a with fr := ⟨m, fr_grow F k, fun i x v h1 h2 h3 => let ⟨val, q, r⟩ := l i x v h1 h2 h3; ⟨val, q, r.ext (ext_grow none k) (.refl g)⟩⟩, fo := fo_grow a.fo k, sr := sr_grow a.sr k, gens := a.gens, os := a.os }
theorem At.toks {W : Wd} {d : Nat} {f : FC} {A : Around} {s : Shared} {ρ : List V} {σ : Sta} {g : G} (a : At W d f A s ρ σ g) (n : Nat) : At W d f A { s with toks := n } ρ σ g := a.grow (h' := s.heap) fun _ _ e => e
theorem At.push {W : Wd} {d : Nat} {f : FC} {A : Around} {s : Shared} {ρ : List V} {σ : Sta} {g : G} (a : At W d f A s ρ σ g) (o : Obj) (n : Nat) : At W d f A { s with heap := s.heap.push o, toks := n } ρ σ g := a.grow fun _ _ e => Heap.get?_push_of_some _ e

section
variable (W : Wd) (d : Nat) (f : FC) (A : Around) (Φ : Nat → List V → Sta → Option (V × Sta))
/-- what a walked expression hands on -/
def PostX (s : Shared) (ρ : List V) (g : G) (v : V) (σ' : Sta) (Q : Value → Shared → Prop) : Prop :=
  ∀ val s' g', At W d f A s' ρ σ' g' → Ext g' s.heap s'.heap → G.le g g' → Rv W.K g' s'.heap v val → Q val s'
/-- the expression is what the small language says -/
def SX (e : Expr) (x : X) : Prop := ∀ (s : Shared) (ρ : List V) (σ : Sta) (g : G) (v : V) (σ' : Sta), At W d f A s ρ σ g → evalX Φ ρ x σ = some (v, σ') →
  ∀ (Q : Value → Shared → Prop) (E : Value → Shared → Prop), PostX W d f A s ρ g v σ' Q → wpAny (model W.p W.w) A (eval e f.env) Q E s
end
theorem FC.env_kind (f : FC) (x : Str) : f.env.kindOf x = f.scope.names.lookup x := rfl

section
variable {W : Wd} {d : Nat} {f : FC} {A : Around} {Φ : Nat → List V → Sta → Option (V × Sta)}

theorem sx_none {k pos} : SX W d f A Φ (.Constant .none k pos) (.cst .none) := fun s ρ σ g v σ' a h Q E P => by
  cases h
  exact Constant_none (P _ _ g a (.refl _ _) (.refl g) .none)
theorem sx_bool {b k pos} : SX W d f A Φ (.Constant (.bool b) k pos) (.cst (.bool b)) := fun s ρ σ g v σ' a h Q E P => by
  cases h
  exact Constant_bool (P _ _ g a (.refl _ _) (.refl g) (.bool b))
theorem sx_int {i k pos} : SX W d f A Φ (.Constant (.int i) k pos) (.cst (.int i)) := fun s ρ σ g v σ' a h Q E P => by
  cases h
  exact wpAny_Constant_int (P _ _ g (a.toks _) (.refl _ _) (.refl g) (.int i _))
theorem sx_str {x : Str} {y : Tx} {k pos} (hx : x = strOf y) (hz : y.length ≤ sizeMax) : SX W d f A Φ (.Constant (.str x) k pos) (.cst (.str y)) := fun s ρ σ g v σ' a h Q E P => by
  cases h
  subst hx
  show wpAny _ _ (mkText _) _ _ _
  exact wpAny_mkText (P _ _ g (a.toks _) (.refl _ _) (.refl g) (.str y _ hz))
theorem sx_loc {x : Str} {i : Nat} {pos} (hk : f.scope.names.lookup x = some .local) (hd : (x == ("__debug__" : Str)) = false) (hi : f.nm[i]? = some x) : SX W d f A Φ (.Name x pos) (.loc i) := fun s ρ σ g v σ' a h Q E P => by
  unfold evalX at h
  cases hv : locV ρ i with
  | none => rw [hv] at h; cases h
  | some u =>
    rw [hv] at h
    cases h
    unfold locV at hv
    have hu : ρ[i]? = some v ∧ v ≠ .undef := by
      split at hv
      · cases hv
      · rename_i h0
        exact ⟨hv, fun e => h0 (by rw [hv, e])⟩
    obtain ⟨m, F, l⟩ := a.fr
    obtain ⟨val, h1, h2⟩ := l i x v hi hu.1 hu.2
    exact ld F h1 (P _ _ g a (.refl _ _) (.refl g) h2) a.kind hk hd
end
end Mine
end

section
open PySem PySem.W PySem.Calls PyProof.Rows
set_option Elab.async false
set_option maxRecDepth 100000
set_option linter.unusedVariables false
namespace Mine

/-- what the walk asks of the written objects -/
structure KF (K : Frag) : Prop where
  hasD : hasDictIn K 527 = true
  setA : findIn K (.ref 527) "__setattr__" = some (some (.builtin "object.__setattr__"))
  over : plainOver K 527 = true
  fld : ∀ f : Fld, plainGet K 527 f.name = true ∧ (∃ attr, findIn K (.ref 527) f.name = some attr ∧ noGet K attr = true) ∧ takerIn K 527 f.name = some none
/-- the builtin names that the walk reads -/
def biNames : List Str := ["len", "ord", "min", "isinstance", "any", "range", "str", "TypeError"]
def glbNames : List Str := ["g_v", "g_v_WXY", "a_0", "a_1", "a_2", "a_3", "a_4", "a_5", "as_0", "as_3", "as_4", "_law_TWO", "_law_THREE", "_law_FOUR"]
structure Ok (W : Wd) : Prop where
  kf : KF W.K
  X : W.K.In W.hb
  T : Top W.Q W.loose W.mean W.mg W.mb W.hb
  bi : ∀ x ∈ biNames, nsIn W.K mainGlobals x = some none
  set : ∀ k : Bool, ∃ o S n, W.hb.get? (if k then 233 else 232) = some o ∧ o.SetObjOf (strKind W.p W.w) S n ∧ n < 4096 ∧ ∀ a : Tx, S (strOf a) = (setTx k).contains a
  glb : ∀ k v x, glbs[k]? = some v → glbNames[k]? = some x → ∃ val, Rv W.K none W.hb v val ∧ handedIn val = true ∧ (if k ≤ 10 then findCls W.K (.ref 527) (.type "type") x = some (.val val) else nsIn W.K mainGlobals x = some (some val))
  cls : nsIn W.K mainGlobals "PorterStemmer" = some (some (.ref 527))
  ctype : typeIn W.K (.ref 527) = some (.type "type") ∧ readsIn W.K 527 (.type "type") = true
  am : hasDictIn W.K 220 = true ∧ ∀ x ∈ (["s", "substring_i", "result"] : List Str), plainGet W.K 220 x = true ∧ findIn W.K (.ref 220) x = some none

section
variable {W : Wd} {d : Nat} {f : FC} {A : Around} {Φ : Nat → List V → Sta → Option (V × Sta)}

theorem Fld.name_inj {a b : Fld} (h : a.name = b.name) : a = b := by
  cases a <;> cases b <;> first | rfl | (exact absurd h (by decide))

theorem handed_flat {v : V} {val : Value} {K : Frag} {g : G} {h : Heap} (hf : flat v = true) (r : Rv K g h v val) : handedIn val = true := by
  cases r <;> first | rfl | cases hf

theorem inst_at {h : Heap} {x dx : Addr} {es : List DictEntry} {n : Nat} (h1 : h.get? x = some (instObj 527 dx)) (h2 : h.get? dx = some (dictOf es n)) : InstAt h x (instObj 527 dx) 527 (some (dictOf es n)) := ⟨h1, rfl, rfl, h2⟩

theorem sx_fld (ok : Ok W) {o : Str} {i : Nat} {fl : Fld} {p pos} (hk : f.scope.names.lookup o = some .local) (hd : (o == ("__debug__" : Str)) = false) (hi : f.nm[i]? = some o) : SX W d f A Φ (.Attribute (.Name o p) fl.name pos) (.fld i fl) := fun s ρ σ g v σ' a h Q E P => by
  unfold evalX at h
  split at h
  · rename_i st hl
    cases hv : st.get fl with
    | none => rw [hv] at h; cases h
    | some u =>
      rw [hv] at h
      cases h
      refine Attribute_Name_ ?_ rfl
      have hx : SX W d f A Φ (.Name o p) (.loc i) := sx_loc hk hd hi
      refine hx s ρ (some st) g .slf (some st) a (by unfold evalX; rw [hl]; rfl) _ E fun val s' g' a' ex gl r => ?_
      cases r with
      | slf hg =>
        rename_i x dx
        obtain ⟨q1, q2, q3, q4, es, n, q5, q6⟩ := a'.sr.some st x dx rfl hg
        obtain ⟨fv, val, e1, e2⟩ := q6.val fl v hv
        obtain ⟨k1, ⟨attr, k2, k3⟩, _⟩ := ok.kf.fld fl
        obtain ⟨m, F, _⟩ := a'.fr
        refine get_own F ok.X (inst_at q4 q5) k1 ok.kf.hasD k2 k3 e1 (handed_flat fv (e2 g' s'.heap)) ?_
        exact P _ _ g' (a'.toks _) ex gl (e2 _ _)
  · cases h
end
end Mine
end

section
open PySem PySem.W PySem.Calls PyProof.Rows
set_option Elab.async false
set_option maxRecDepth 100000
set_option linter.unusedVariables false
namespace Mine

def Bop.py : Bop → Operator
  | .add => .Add | .sub => .Sub | .mul => .Mult | .mod => .Mod | .shr => .RShift
def Cop.py : Cop → CmpOp
  | .lt => .Lt | .le => .LtE | .gt => .Gt | .ge => .GtE | .eq => .Eq | .ne => .NotEq

theorem small_lt {i : Int} (h : small i = true) : -(2 ^ 62 : Int) < i ∧ i < 2 ^ 62 := by
  unfold small at h
  simp only [Bool.and_eq_true, decide_eq_true_eq] at h
  exact h
theorem sizeMax_le {n : Nat} (h : n ≤ sizeMax) : n ≤ sizeLine := Nat.le_trans h (by decide)
theorem strOf_append (x y : Tx) : strOf x ++ strOf y = strOf (x ++ y) := by
  apply Str.ext'
  show (x.toArray ++ y.toArray) = (x ++ y).toArray
  simp
theorem strOf_inj {x y : Tx} (h : strOf x = strOf y) : x = y := by
  have := congrArg (fun s => s.cps.toList) h
  exact this
theorem strOf_beq (x y : Tx) : (strOf x == strOf y) = decide (x = y) := by
  by_cases h : x = y
  · subst h; simp
  · rw [decide_eq_false h]
    exact beq_eq_false_iff_ne.mpr fun e => h (strOf_inj e)
theorem strOf_bne (x y : Tx) : (strOf x != strOf y) = !decide (x = y) := by unfold bne; rw [strOf_beq]

section
variable {p : Program} {w : World} {A : Around} {E : Value → Shared → Prop} {s : Shared} {Q : Value → Shared → Prop} {K : Frag} {g : G} {h : Heap}
theorem bin_sound {o : Bop} {a b v : V} {va vb : Value} (hv : binV o a b = some v) (ra : Rv K g h a va) (rb : Rv K g h b vb)
    (P : ∀ val k, (∀ g h, Rv K g h v val) → Q val { s with toks := k }) : wpAny (model p w) A (binaryOp o.py va vb) Q E s := by
  cases o <;> cases ra <;> (try cases hv) <;> cases rb <;> (try cases hv)
  · exact add_int (P _ _ fun _ _ => .int _ _)
  · rename_i x t hx y u hy
    simp only [binV] at hv
    split at hv
    · rename_i hs
      cases hv
      refine SB.add (fun t' k => ?_) (by rw [strOf_len, strOf_len]; exact sizeMax_le hs)
      rw [strOf_append]
      exact P _ k fun _ _ => .str _ _ (by rw [List.length_append]; exact hs)
    · cases hv
  · exact sub_int (P _ _ fun _ _ => .int _ _)
  · rename_i x t y u
    simp only [binV] at hv
    split at hv
    · rename_i hs
      cases hv
      subst hs
      exact PySem.P.mul_int (P _ _ fun _ _ => .int _ _) (IntMulOk.of_left (by decide +kernel))
    · cases hv
  · rename_i x t y u
    simp only [binV] at hv
    split at hv
    · rename_i hs
      cases hv
      refine mod_int (by omega) ?_
      rw [Int.fmod_eq_emod_of_nonneg _ (by omega)]
      exact P _ _ fun _ _ => .int _ _
    · cases hv
  · rename_i x t y u
    simp only [binV] at hv
    split at hv
    · rename_i hs
      cases hv
      subst hs
      refine rshift_int (by decide) ?_
      rw [show ((1 : Int).toNat) = 1 from rfl]
      have : x.fdiv (2 ^ 1) = x / 2 := by rw [Int.fdiv_eq_ediv_of_nonneg _ (by decide)]; rfl
      rw [this]
      exact P _ _ fun _ _ => .int _ _
    · cases hv
theorem cmp_sound {o : Cop} {a b v : V} {va vb : Value} (hv : cmpV o a b = some v) (ra : Rv K g h a va) (rb : Rv K g h b vb)
    (P : ∀ c, v = .bool c → Q (.bool c) s) : wpAny (model p w) A (compareOp o.py va vb) Q E s := by
  cases o <;> cases ra <;> (try cases hv) <;> cases rb <;> (try cases hv)
  · exact lt_int (P _ rfl)
  · exact PySem.P.le_int (P _ rfl)
  · exact gt_int (P _ rfl)
  · exact PySem.P.ge_int (P _ rfl)
  · refine eq_int ?_
    rw [show ∀ (x y : Int), (x == y) = decide (x = y) from fun x y => by by_cases e : x = y <;> simp [e]]
    exact P _ rfl
  · refine eq_str ?_
    rw [strOf_beq]
    exact P _ rfl
  · refine ne_int ?_
    rw [show ∀ (x y : Int), (x != y) = !decide (x = y) from fun x y => by by_cases e : x = y <;> simp [e]]
    exact P _ rfl
  · refine ne_str ?_
    rw [strOf_bne]
    exact P _ rfl
end
end Mine
end

section
open PySem PySem.W PySem.Calls PyProof.Rows
set_option Elab.async false
set_option maxRecDepth 100000
set_option linter.unusedVariables false
namespace Mine
section
variable {W : Wd} {d : Nat} {f : FC} {A : Around} {Φ : Nat → List V → Sta → Option (V × Sta)}

theorem bind_some {α β : Type} {x : Option α} {k : α → Option β} {r : β} (h : (x >>= k) = some r) : ∃ a, x = some a ∧ k a = some r := Option.bind_eq_some_iff.mp h

/-- two values one behind the other -/
theorem sx_two {e₁ e₂ : Expr} {a b : X} (h1 : SX W d f A Φ e₁ a) (h2 : SX W d f A Φ e₂ b) {s : Shared} {ρ : List V} {σ σ₁ σ₂ : Sta} {g : G} {x y : V} (at_ : At W d f A s ρ σ g)
    (ea : evalX Φ ρ a σ = some (x, σ₁)) (eb : evalX Φ ρ b σ₁ = some (y, σ₂)) {R : Value → Value → Shared → Prop} {E : Value → Shared → Prop}
    (P : ∀ va vb s' g', At W d f A s' ρ σ₂ g' → Ext g' s.heap s'.heap → G.le g g' → Rv W.K g' s'.heap x va → Rv W.K g' s'.heap y vb → R va vb s') :
    wpAny (model W.p W.w) A (eval e₁ f.env) (fun va s₁ => wpAny (model W.p W.w) A (eval e₂ f.env) (fun vb s₂ => R va vb s₂) E s₁) E s :=
  h1 s ρ σ g x σ₁ at_ ea _ E fun va s₁ g₁ at₁ ex₁ gl₁ r₁ => h2 s₁ ρ σ₁ g₁ y σ₂ at₁ eb _ E fun vb s₂ g₂ at₂ ex₂ gl₂ r₂ =>
    P va vb s₂ g₂ at₂ (ex₁.trans gl₂ ex₂) (gl₁.trans gl₂) (r₁.ext ex₂ gl₂) r₂

theorem sx_bin {e₁ e₂ : Expr} {a b : X} {o : Bop} {pos} (h1 : SX W d f A Φ e₁ a) (h2 : SX W d f A Φ e₂ b) : SX W d f A Φ (.BinOp e₁ o.py e₂ pos) (.bin o a b) := fun s ρ σ g v σ' at_ h Q E P => by
  unfold evalX at h
  obtain ⟨⟨x, σ₁⟩, ea, h⟩ := bind_some h
  obtain ⟨⟨y, σ₂⟩, eb, h⟩ := bind_some h
  obtain ⟨z, eo, h⟩ := bind_some h
  cases h
  refine wpAny_BinOp (sx_two h1 h2 at_ ea eb fun va vb s' g' at' ex gl ra rb => ?_)
  exact bin_sound eo ra rb fun val k r => P val _ g' (at'.toks k) ex gl (r _ _)
theorem marks_no (o : Cop) (e : Expr) : behindInMarks o.py e = false := by cases o <;> cases e <;> first | rfl | (unfold behindInMarks; simp [Cop.py]; done) | (simp [behindInMarks, Cop.py]; intro; decide)
theorem sx_cmp {e₁ e₂ : Expr} {a b : X} {o : Cop} {pos} (h1 : SX W d f A Φ e₁ a) (h2 : SX W d f A Φ e₂ b) : SX W d f A Φ (.Compare e₁ [o.py] [e₂] pos) (.cmp o a b) := fun s ρ σ g v σ' at_ h Q E P => by
  unfold evalX at h
  obtain ⟨⟨x, σ₁⟩, ea, h⟩ := bind_some h
  obtain ⟨⟨y, σ₂⟩, eb, h⟩ := bind_some h
  obtain ⟨z, eo, h⟩ := bind_some h
  cases h
  refine wpAny_Compare1 (sx_two h1 h2 at_ ea eb fun va vb s' g' at' ex gl ra rb => ?_) (marks_no o e₂)
  exact cmp_sound eo ra rb fun c e => by subst e; exact P _ _ g' at' ex gl (.bool c)

theorem truth_sound {p : Program} {w : World} {E : Value → Shared → Prop} {s : Shared} {R : Bool → Shared → Prop} {K : Frag} {g : G} {v : V} {val : Value} {b : Bool} (hb : truthV v = some b) (r : Rv K g s.heap v val) (P : ∀ k, R b { s with toks := k }) :
    wpAny (model p w) A (truthy val) R E s := by
  cases r <;> (try cases hb)
  · exact wpAny_truthy_bool (P s.toks)
  · rename_i vs items a hl hn hz hi
    refine wpAny_truthy_list hl ?_ ?_
    · rw [List.size_toArray, hn]
      have : sizeMax = 1048576 := rfl
      omega
    · have e : (!items.toArray.isEmpty) = (!vs.isEmpty) := by
        have q : items.toArray.isEmpty = items.isEmpty := by simp
        rw [q]
        cases items with
        | nil => cases vs with
          | nil => rfl
          | cons _ _ => cases hn
        | cons _ _ => cases vs with
          | nil => cases hn
          | cons _ _ => rfl
      rw [e]
      exact P _

theorem sx_neg {e : Expr} {a : X} {pos} (h1 : SX W d f A Φ e a) : SX W d f A Φ (.UnaryOp .USub e pos) (.neg a) := fun s ρ σ g v σ' at_ h Q E P => by
  unfold evalX at h
  obtain ⟨⟨x, σ₁⟩, ea, h⟩ := bind_some h
  obtain ⟨z, eo, h⟩ := bind_some h
  cases h
  refine UnaryOp_ (h1 s ρ σ g x _ at_ ea _ E fun va s' g' at' ex gl ra => ?_)
  cases ra <;> (try cases eo)
  exact PySem.P.neg_int (P _ _ g' (at'.toks _) ex gl (.int _ _))
theorem sx_not {e : Expr} {a : X} {pos} (h1 : SX W d f A Φ e a) : SX W d f A Φ (.UnaryOp .Not e pos) (.notv a) := fun s ρ σ g v σ' at_ h Q E P => by
  unfold evalX at h
  obtain ⟨⟨x, σ₁⟩, ea, h⟩ := bind_some h
  obtain ⟨z, eo, h⟩ := bind_some h
  cases h
  refine UnaryOp_ (h1 s ρ σ g x _ at_ ea _ E fun va s' g' at' ex gl ra => ?_)
  exact not_of (truth_sound eo ra fun k => P _ _ g' (at'.toks k) ex gl (.bool _))
theorem sx_and {e₁ e₂ : Expr} {a b : X} {pos} (h1 : SX W d f A Φ e₁ a) (h2 : SX W d f A Φ e₂ b) : SX W d f A Φ (.BoolOp .And [e₁, e₂] pos) (.andv a b) := fun s ρ σ g v σ' at_ h Q E P => by
  unfold evalX at h
  obtain ⟨⟨x, σ₁⟩, ea, h⟩ := bind_some h
  obtain ⟨z, eo, h⟩ := bind_some h
  refine BoolOp_and (h1 s ρ σ g x _ at_ ea _ E fun va s' g' at' ex gl ra => ?_)
  refine truth_sound eo ra fun k => ?_
  cases z with
  | false => cases h; exact P _ _ g' (at'.toks k) ex gl ra
  | true => exact BoolOp_one (h2 _ ρ σ₁ g' v σ' (at'.toks k) h Q E fun vb s₂ g₂ at₂ ex₂ gl₂ r₂ => P vb s₂ g₂ at₂ (ex.trans gl₂ ex₂) (gl.trans gl₂) r₂)
theorem sx_or {e₁ e₂ : Expr} {a b : X} {pos} (h1 : SX W d f A Φ e₁ a) (h2 : SX W d f A Φ e₂ b) : SX W d f A Φ (.BoolOp .Or [e₁, e₂] pos) (.orv a b) := fun s ρ σ g v σ' at_ h Q E P => by
  unfold evalX at h
  obtain ⟨⟨x, σ₁⟩, ea, h⟩ := bind_some h
  obtain ⟨z, eo, h⟩ := bind_some h
  refine BoolOp_or (h1 s ρ σ g x _ at_ ea _ E fun va s' g' at' ex gl ra => ?_)
  refine truth_sound eo ra fun k => ?_
  cases z with
  | true => cases h; exact P _ _ g' (at'.toks k) ex gl ra
  | false => exact BoolOp_one (h2 _ ρ σ₁ g' v σ' (at'.toks k) h Q E fun vb s₂ g₂ at₂ ex₂ gl₂ r₂ => P vb s₂ g₂ at₂ (ex.trans gl₂ ex₂) (gl.trans gl₂) r₂)
end
end Mine
end

section
open PySem PySem.W PySem.Calls PyProof.Rows
set_option Elab.async false
set_option maxRecDepth 100000
set_option linter.unusedVariables false
namespace Mine
section
variable {W : Wd} {d : Nat} {f : FC} {A : Around} {Φ : Nat → List V → Sta → Option (V × Sta)}

theorem lt_fit {n : Nat} (h : n ≤ sizeMax) : (n : Int) < 2 ^ 63 := by
  have : sizeMax = 1048576 := rfl
  omega

theorem tail_sound {value slice : Expr} {o i : Value} {T id : String} {E : Value → Shared → Prop} {s : Shared} {Q : Value → Shared → Prop} (hT : s.TypeIs o T)
    (hl : typeLookup (.type T) "__getitem__" = pure (some (.builtin id))) (h : wpAny (model W.p W.w) A (getItem o i) Q E s)
    (hs : subscripted slice false o i = operate [o, i] (getItem o i) ∨ subscripted slice false o i = operate [i, o] (getItem o i)) :
    wpAny (model W.p W.w) A (subscriptTail value slice o i) Q E s := by
  unfold subscriptTail
  refine wpAny_bind ?_
  rw [getitemInPython_of_ne hT.not_modules]
  refine wpAny_bind (wpAny_specialOf hT hl ?_)
  have fin : wpAny (model W.p W.w) A (subscripted slice false o i) (fun r s₃ => wpAny (model W.p W.w) A (letTemporaryGo value o r >>= fun _ => pure r) Q E s₃) E s := by
    rcases hs with hs | hs <;> rw [hs]
    all_goals exact wpAny_operating (wpAny_mono h (fun r s₃ h₃ => wpAny_bind (wpAny_letTemporaryGo (wpAny_pure h₃))) fun _ _ x => x)
  first
    | exact wpAny_pure (wpAny_bind fin)
    | exact wpAny_bind (wpAny_pure (wpAny_bind fin))
    | exact wpAny_bind fin

theorem nat_of_le {i : Int} (h : 0 ≤ i) : ((i.toNat : Nat) : Int) = i := Int.toNat_of_nonneg h
theorem seqIndex_pos {i : Int} {n : Nat} (h0 : 0 ≤ i) (h : i.toNat < n) : seqIndex? i n = some i.toNat := by
  unfold seqIndex?
  have h1 : ¬ i < 0 := by omega
  have h2 : i < (n : Int) := by omega
  simp [h1, h2, h0]

/-- a slice that is no slice -/
def noSlice : Expr → Bool
  | .Slice .. => false
  | _ => true
theorem subscripted_plain {sl : Expr} (h : noSlice sl = true) (o i : Value) : subscripted sl false o i = operate [o, i] (getItem o i) := by
  cases sl <;> first | rfl | cases h

theorem idx_sound {value slice : Expr} {x y v : V} {va vb : Value} {g : G} {E : Value → Shared → Prop} {s : Shared} {Q : Value → Shared → Prop} (eo : idxV x y = some v) (ra : Rv W.K g s.heap x va) (rb : Rv W.K g s.heap y vb)
    (hn : noSlice slice = true) (P : ∀ val k, Rv W.K g s.heap v val → Q val { s with toks := k }) : wpAny (model W.p W.w) A (subscriptTail value slice va vb) Q E s := by
  cases rb with
  | int i u =>
    cases ra with
    | str x t hx =>
      simp only [idxV] at eo
      split at eo
      · rename_i h0
        obtain ⟨c, hc, rfl⟩ := Option.map_eq_some_iff.mp eo
        have hlt : i.toNat < x.length := (List.getElem?_eq_some_iff.mp hc).1
        have hch : Txt.charAt (strOf x) i = some c := by
          unfold Txt.charAt
          rw [strOf_len, seqIndex_pos h0 hlt]
          show x.toArray[i.toNat]? = _
          simpa using hc
        have hb := lt_fit hx
        refine tail_sound (typeIs_str _ _ _) F.slot_str_getitem.lookup (SB.getItem ?_ (by rw [hch]; rfl) ?_) (.inl (subscripted_plain hn _ _))
        · unfold fitsSsize
          have a1 : ¬ i < -(2 ^ 63 : Int) := by omega
          have a2 : ¬ i ≥ 2 ^ 63 := by omega
          rw [decide_eq_false a1, decide_eq_false a2]; rfl
        · have : Txt.item (strOf x) i = strOf [c] := by unfold Txt.item; rw [hch]; rfl
          rw [this]
          exact P _ _ (.str _ _ (by show 1 ≤ sizeMax; decide))
      · cases eo
    | list hl hlen hz hi =>
      rename_i vs items a'
      simp only [idxV] at eo
      split at eo
      · rename_i h0
        have hlt : i.toNat < vs.length := (List.getElem?_eq_some_iff.mp eo).1
        have hlt' : i.toNat < items.length := by omega
        have hb := lt_fit hz
        have hx : items[i.toNat]? = some (items[i.toNat]) := List.getElem?_eq_getElem hlt'
        have hl' := hl
        obtain ⟨o, ho, hc, _, hd⟩ := hl
        refine tail_sound (T := "list") ⟨o, ho, hc⟩ F.slot_list_getitem.lookup (wpAny_getItem_list hl' h0 (by omega) (x := items[i.toNat]) (by simpa using hx) ?_) (.inl (subscripted_plain hn _ _))
        exact P _ s.toks (hi _ _ _ eo hx)
      · cases eo
    | tup hl hlen hz hi =>
      rename_i vs items a'
      simp only [idxV] at eo
      split at eo
      · rename_i h0
        have hlt : i.toNat < vs.length := (List.getElem?_eq_some_iff.mp eo).1
        have hlt' : i.toNat < items.length := by omega
        have hb := lt_fit hz
        have hx : items[i.toNat]? = some (items[i.toNat]) := List.getElem?_eq_getElem hlt'
        refine tail_sound (T := "tuple") hl.typeIs slot_tuple_getitem.lookup (getItem_tuple hl (by omega) (by omega) (j := i.toNat) (x := items[i.toNat]) (by rw [List.size_toArray]; exact seqIndex_pos h0 hlt') (by simpa using hx) ?_) (.inl (subscripted_plain hn _ _))
        exact P _ s.toks (hi _ _ _ eo hx)
      · cases eo
    | _ => cases eo
  | _ => cases ra <;> cases eo

theorem sx_idx {e₁ e₂ : Expr} {a b : X} {pos} (h1 : SX W d f A Φ e₁ a) (h2 : SX W d f A Φ e₂ b) (hn : noSlice e₂ = true) : SX W d f A Φ (.Subscript e₁ e₂ pos) (.idx a b) := fun s ρ σ g v σ' at_ h Q E P => by
  unfold evalX at h
  obtain ⟨⟨x, σ₁⟩, ea, h⟩ := bind_some h
  obtain ⟨⟨y, σ₂⟩, eb, h⟩ := bind_some h
  obtain ⟨z, eo, h⟩ := bind_some h
  cases h
  exact Subscript_ (sx_two h1 h2 at_ ea eb fun va vb s' g' at' ex gl ra rb => idx_sound eo ra rb hn fun val k r => P _ _ g' (at'.toks k) ex gl r)
end
end Mine
end

section
open PySem PySem.W PySem.Calls PyProof.Rows 
open PySem.Builtin.Str (strSliceIndices)
set_option Elab.async false
set_option maxRecDepth 100000
set_option linter.unusedVariables false
namespace Mine

theorem range_pick {α : Type} (l : List α) (a b : Nat) (hb : b ≤ l.length) : (sliceRange (a : Int) (b : Int) 1).filterMap (l[·]?) = (l.take b).drop a := by
  unfold sliceRange
  simp only [show ((1 : Int) > 0) = True from by simp, if_true]
  by_cases h : (a : Int) < b
  · have e3 : (((b : Int) - a + 1 - 1) / 1).toNat = b - a := by first | omega | (simp; omega) | simp
    simp only [h, if_true, e3]
    have e4 : (List.map (fun (k : Nat) => ((a : Int) + 1 * (k : Int)).toNat) (List.range (b - a))) = (List.range (b - a)).map (fun k => a + k) := List.map_congr_left fun k _ => by omega
    rw [e4, StrLaws.picks l (b - a) a (by omega), ← List.drop_take]
  · simp only [h, if_false]
    have : (l.take b).drop a = [] := List.drop_eq_nil_of_le (by rw [List.length_take]; omega)
    rw [this]; rfl

/-- the two ends of a slice, as the model takes them -/
inductive Part (K : Frag) (g : G) (h : Heap) : V → Value → Option (Int × Tok) → Prop where
  | none : Part K g h .none .none .none
  | int (i : Int) (t : Tok) : Part K g h (.int i) (.int i t) (some (i, t))
theorem part_of {K : Frag} {g : G} {h : Heap} {v : V} {val : Value} (r : Rv K g h v val) (hv : v = .none ∨ ∃ i, v = .int i) : ∃ p, Part K g h v val p ∧ partValue p = val ∧ IsPart val (p.map (·.1)) := by
  rcases hv with rfl | ⟨i, rfl⟩
  · cases r; exact ⟨_, .none, rfl, .none⟩
  · cases r; exact ⟨_, .int _ _, rfl, .int _ _⟩
theorem lo_shape {v : V} {i : Nat} (h : loOf v = some i) : (v = .none ∧ i = 0) ∨ ∃ k : Int, v = .int k ∧ 0 ≤ k ∧ i = k.toNat := by
  unfold loOf at h
  split at h
  · cases h; exact .inl ⟨rfl, rfl⟩
  · rename_i k
    split at h
    · rename_i h0; cases h; exact .inr ⟨k, rfl, h0, rfl⟩
    · cases h
  · cases h
theorem hi_shape {v : V} {n i : Nat} (h : hiOf n v = some i) : (v = .none ∧ i = n) ∨ ∃ k : Int, v = .int k ∧ 0 ≤ k ∧ i = min n k.toNat := by
  unfold hiOf at h
  split at h
  · cases h; exact .inl ⟨rfl, rfl⟩
  · rename_i k
    split at h
    · rename_i h0; cases h; exact .inr ⟨k, rfl, h0, rfl⟩
    · cases h
  · cases h

theorem range_len (a b : Nat) : (sliceRange (a : Int) (b : Int) 1).length = b - a := by
  unfold sliceRange
  simp only [show ((1 : Int) > 0) = True from by simp, if_true]
  by_cases h : (a : Int) < b
  · have e3 : (((b : Int) - a + 1 - 1) / 1).toNat = b - a := by first | omega | (simp; omega) | simp
    simp only [h, if_true, e3, List.length_map, List.length_range]
  · simp only [h, if_false, List.length_map, List.length_range]
    show 0 = b - a
    omega
theorem bounds_ab {K : Frag} {g g' : G} {h h' : Heap} {lo hi : V} {i j n : Nat} {va vb : Value} {p q : Option (Int × Tok)} (hl : loOf lo = some i) (hh : hiOf n hi = some j) (pa : Part K g h lo va p) (pb : Part K g' h' hi vb q) :
    j ≤ n ∧ strSliceIndices (p.map (·.1)) (q.map (·.1)) 1 n = sliceRange ((min i n : Nat) : Int) (j : Int) 1 := by
  unfold strSliceIndices
  simp only [show ((1 : Int) > 0) = True from by simp, if_true]
  rcases lo_shape hl with ⟨rfl, rfl⟩ | ⟨k, rfl, h0, rfl⟩ <;> rcases hi_shape hh with ⟨rfl, ej⟩ | ⟨k', rfl, h0', ej⟩ <;> rw [ej] <;> cases pa <;> cases pb
  · exact ⟨Nat.le_refl _, by simp⟩
  · have n1 : ¬ k' < 0 := by omega
    simp only [Option.map_some, Option.map_none, n1, if_false]
    have e : max (0 : Int) (min k' (n : Int)) = ((min n k'.toNat : Nat) : Int) := by omega
    rw [e]
    exact ⟨Nat.min_le_left _ _, by simp⟩
  · have n1 : ¬ k < 0 := by omega
    simp only [Option.map_some, Option.map_none, n1, if_false]
    have e : max (0 : Int) (min k (n : Int)) = ((min k.toNat n : Nat) : Int) := by omega
    rw [e]
    exact ⟨Nat.le_refl _, rfl⟩
  · have n1 : ¬ k < 0 := by omega
    have n2 : ¬ k' < 0 := by omega
    simp only [Option.map_some, n1, n2, if_false]
    have e : max (0 : Int) (min k (n : Int)) = ((min k.toNat n : Nat) : Int) := by omega
    have e' : max (0 : Int) (min k' (n : Int)) = ((min n k'.toNat : Nat) : Int) := by omega
    rw [e, e']
    exact ⟨Nat.min_le_left _ _, rfl⟩
theorem drop_min {α : Type} (l : List α) (i j : Nat) : (l.take j).drop (min i l.length) = (l.take j).drop i := by
  by_cases h : i ≤ l.length
  · rw [Nat.min_eq_left h]
  · rw [List.drop_eq_nil_of_le (by rw [List.length_take]; omega), List.drop_eq_nil_of_le (by rw [List.length_take]; omega)]
theorem bounds_pick {α : Type} {K : Frag} {g g' : G} {h h' : Heap} {lo hi : V} {i j : Nat} {va vb : Value} {p q : Option (Int × Tok)} (l : List α) (hl : loOf lo = some i) (hh : hiOf l.length hi = some j) (pa : Part K g h lo va p) (pb : Part K g' h' hi vb q) :
    (strSliceIndices (p.map (·.1)) (q.map (·.1)) 1 l.length).filterMap (l[·]?) = (l.take j).drop i := by
  obtain ⟨h1, h2⟩ := bounds_ab hl hh pa pb
  rw [h2, range_pick l _ _ h1, drop_min]
theorem bounds_same (lo hi : Option Int) (n : Nat) : sliceRange (sliceBounds lo hi none n).1 (sliceBounds lo hi none n).2.1 (sliceBounds lo hi none n).2.2 = strSliceIndices lo hi 1 n := by
  unfold sliceBounds strSliceIndices
  simp only [Option.getD_none]
  rfl
theorem lo_part {v : V} {i : Nat} (h : loOf v = some i) : v = .none ∨ ∃ k, v = .int k := by
  rcases lo_shape h with ⟨r, _⟩ | ⟨k, r, _⟩
  · exact .inl r
  · exact .inr ⟨k, r⟩
theorem hi_part {v : V} {n i : Nat} (h : hiOf n v = some i) : v = .none ∨ ∃ k, v = .int k := by
  rcases hi_shape h with ⟨r, _⟩ | ⟨k, r, _⟩
  · exact .inl r
  · exact .inr ⟨k, r⟩

section
variable {W : Wd} {d : Nat} {f : FC} {A : Around} {Φ : Nat → List V → Sta → Option (V × Sta)}

theorem txSlice {K : Frag} {g : G} {h : Heap} {lo hi : V} {i j : Nat} {va vb : Value} {p q : Option (Int × Tok)} (x : Tx) (hl : loOf lo = some i) (hh : hiOf x.length hi = some j) (pa : Part K g h lo va p) (pb : Part K g h hi vb q) :
    (if ((none : Option (Int × Tok)).map (·.1)).getD 1 == 1 && (slicePicked (strOf x) p q none).length == (strOf x).length then strOf x else ⟨((slicePicked (strOf x) p q none).filterMap ((strOf x).cps[·]?)).toArray⟩ : Str) = strOf ((x.take j).drop i) := by
  have e0 : (slicePicked (strOf x) p q none).filterMap ((strOf x).cps[·]?) = (x.take j).drop i := by
    have := bounds_pick x hl hh pa pb
    unfold slicePicked
    rw [strOf_len]
    show (strSliceIndices _ _ 1 _).filterMap (fun k => x.toArray[k]?) = _
    simpa using this
  have e1 : (⟨((slicePicked (strOf x) p q none).filterMap ((strOf x).cps[·]?)).toArray⟩ : Str) = strOf ((x.take j).drop i) := by rw [e0]; rfl
  split
  · rename_i hc
    obtain ⟨h1, h2⟩ := bounds_ab hl hh pa pb
    have hc : (slicePicked (strOf x) p q none).length = x.length := by
      have := (Bool.and_eq_true_iff.mp hc).2
      rw [beq_iff_eq, strOf_len] at this
      exact this
    unfold slicePicked at hc
    rw [strOf_len] at hc
    have h3 : (strSliceIndices (p.map (·.1)) (q.map (·.1)) 1 x.length).length = j - min i x.length := by rw [h2, range_len]
    have h4 : j - min i x.length = x.length := h3.symm.trans hc
    rw [← drop_min]
    by_cases hx : x.length = 0
    · have : x = [] := List.length_eq_zero_iff.mp hx
      subst this; simp
    · have e1 : min i x.length = 0 := by omega
      have e2 : j = x.length := by omega
      rw [e1, e2]; simp
  · exact e1


def SXO (W : Wd) (d : Nat) (f : FC) (A : Around) (Φ : Nat → List V → Sta → Option (V × Sta)) (o : Option Expr) (x : X) : Prop := match o with
  | none => x = .cst .none
  | some e => SX W d f A Φ e x

theorem sxo_eval {o : Option Expr} {x : X} (h : SXO W d f A Φ o x) {s : Shared} {ρ : List V} {σ σ' : Sta} {g : G} {v : V} (at_ : At W d f A s ρ σ g) (ev : evalX Φ ρ x σ = some (v, σ')) {Q E : Value → Shared → Prop} (P : PostX W d f A s ρ g v σ' Q) :
    wpAny (model W.p W.w) A (valueOrNone (evalOpt o f.env)) Q E s := by
  cases o with
  | none =>
    have h : x = .cst .none := h
    subst h
    cases ev
    exact wpAny_pure (P _ _ g at_ (.refl _ _) (.refl g) .none)
  | some e => exact h s ρ σ g v σ' at_ ev Q E P

theorem slc_sound {value : Expr} {lo hi : Option Expr} {sp : Pos} {x y z v : V} {va vb vc : Value} {g : G} {E : Value → Shared → Prop} {s : Shared} {Q : Value → Shared → Prop} (eo : slcV x y z = some v) (ra : Rv W.K g s.heap x va) (rb : Rv W.K g s.heap y vb) (rc : Rv W.K g s.heap z vc)
    (P : ∀ val h' k, (∀ b o, s.heap.get? b = some o → h'.get? b = some o) → Rv W.K g h' v val → Q val { s with heap := h', toks := k }) :
    wpAny (model W.p W.w) A (subscriptTail value (.Slice lo hi none sp) va (.ref s.heap.objs.size)) Q E { s with heap := s.heap.push { cls := .type "slice", data := .fields #[vb, vc, .none] } } := by
  have keep1 : ∀ b o, s.heap.get? b = some o → (s.heap.push { cls := .type "slice", data := .fields #[vb, vc, .none] }).get? b = some o := fun b o e => Heap.get?_push_of_some _ e
  cases ra with
  | str x t hx =>
    simp only [slcV] at eo
    obtain ⟨i, hi', eo⟩ := bind_some eo
    obtain ⟨j, hj, eo⟩ := bind_some eo
    cases eo
    obtain ⟨p, pp, pv, _⟩ := part_of rb (lo_part hi')
    obtain ⟨q, pq, qv, _⟩ := part_of rc (hi_part hj)
    refine tail_sound (typeIs_str _ _ _) F.slot_str_getitem.lookup (wpAny_getItem_str_slice (l := p) (u := q) (st := none) ⟨_, Heap.get?_push_size _ rfl, rfl, ?_⟩ rfl ?_) (.inr rfl)
    · rw [pv, qv]; rfl
    · have key := txSlice x hi' hj pp pq
      unfold sliceMade
      refine post_val_or_str ?_
      rw [key]
      have hz : ((x.take j).drop i).length ≤ sizeMax := by rw [List.length_drop, List.length_take]; omega
      exact ⟨by rw [strOf_len]; exact sizeMax_le hz, fun t' k => P _ _ k keep1 (.str _ _ hz)⟩
  | list hl hlen hz hi =>
    rename_i vs items a'
    simp only [slcV] at eo
    obtain ⟨i, hi', eo⟩ := bind_some eo
    obtain ⟨j, hj, eo⟩ := bind_some eo
    cases eo
    obtain ⟨p, pp, pv, pi⟩ := part_of rb (lo_part hi')
    obtain ⟨q, pq, qv, qi⟩ := part_of rc (hi_part hj)
    have hl1 := hl.push { cls := .type "slice", data := .fields #[vb, vc, .none] }
    have hl1' := hl1
    obtain ⟨o, ho, hc, _, hd⟩ := hl1
    refine tail_sound (T := "list") ⟨o, ho, hc⟩ F.slot_list_getitem.lookup (wpAny_getItem_list_slice hl1' (Heap.IsSliceOf.new ..) pi qi .none (by simp) ?_ (by rw [List.size_toArray, hlen]; exact sizeMax_le hz)) (.inr rfl)
    have e0 : slicePick items.toArray (p.map (·.1)) (q.map (·.1)) none = ((items.take j).drop i).toArray := by
      unfold slicePick
      rw [bounds_same, List.size_toArray]
      have hj' : hiOf items.length z = some j := by rw [hlen]; exact hj
      have := bounds_pick items hi' hj' pp pq
      congr 1
      simpa using this
    rw [e0]
    have kk : ∀ b o, s.heap.get? b = some o → ((s.heap.push { cls := .type "slice", data := .fields #[vb, vc, .none] }).push { cls := .type "list", data := .seq ((items.take j).drop i).toArray }).get? b = some o := fun b o e => Heap.get?_push_of_some _ (keep1 b o e)
    refine P _ _ s.toks kk (.list (items := (items.take j).drop i) ⟨_, Heap.get?_push_size _ rfl, rfl, _, rfl⟩ (by simp only [List.length_drop, List.length_take, hlen]) (by simp only [List.length_drop, List.length_take]; omega) fun k v x h1 h2 => ?_)
    have h1' : vs[i + k]? = some v := by
      rw [List.getElem?_drop, List.getElem?_take] at h1
      split at h1
      · exact h1
      · cases h1
    have h2' : items[i + k]? = some x := by
      rw [List.getElem?_drop, List.getElem?_take] at h2
      split at h2
      · exact h2
      · cases h2
    exact (hi _ _ _ h1' h2').ext (ext_grow none kk) (.refl g)
  | _ => cases eo

theorem sx_slc {e₁ : Expr} {lo hi : Option Expr} {a b c : X} {pos sp} (h1 : SX W d f A Φ e₁ a) (h2 : SXO W d f A Φ lo b) (h3 : SXO W d f A Φ hi c) : SX W d f A Φ (.Subscript e₁ (.Slice lo hi none sp) pos) (.slc a b c) := fun s ρ σ g v σ' at_ h Q E P => by
  unfold evalX at h
  obtain ⟨⟨x, σ₁⟩, ea, h⟩ := bind_some h
  obtain ⟨⟨y, σ₂⟩, eb, h⟩ := bind_some h
  obtain ⟨⟨z, σ₃⟩, ec, h⟩ := bind_some h
  obtain ⟨u, eo, h⟩ := bind_some h
  cases h
  refine Subscript_ (h1 s ρ σ g x σ₁ at_ ea _ E fun va s₁ g₁ at₁ ex₁ gl₁ ra => ?_)
  rw [arm_eval_Slice]
  refine wpAny_bind (sxo_eval h2 at₁ eb fun vb s₂ g₂ at₂ ex₂ gl₂ rb => ?_)
  refine wpAny_bind (wpAny_holding (sxo_eval h3 at₂ ec fun vc s₃ g₃ at₃ ex₃ gl₃ rc => ?_))
  refine wpAny_bind (wpAny_holding (wpAny_pure ?_))
  unfold newFields
  refine wpAny_newObj_type ?_ (by show 3 ≤ sizeLine + 2; decide)
  refine slc_sound (A := A) eo (ra.ext (ex₂.trans gl₃ ex₃) (gl₂.trans gl₃)) (rb.ext ex₃ gl₃) rc fun val h' k kk r => ?_
  exact P _ _ g₃ (at₃.grow kk) ((ex₁.trans gl₂ ex₂).trans gl₃ (ex₃.trans (.refl _) (ext_grow _ kk))) ((gl₁.trans gl₂).trans gl₃) r
end
end Mine
end

section
open PySem PySem.W PySem.Calls PyProof.Rows
set_option Elab.async false
set_option maxRecDepth 100000
set_option linter.unusedVariables false
namespace Mine

inductive RvL (K : Frag) (g : G) (h : Heap) : List V → List Value → Prop where
  | nil : RvL K g h [] []
  | cons {v : V} {x : Value} {vs : List V} {xs : List Value} (a : Rv K g h v x) (b : RvL K g h vs xs) : RvL K g h (v :: vs) (x :: xs)
theorem RvL.ext {K : Frag} {ge : G} {g g' : G} {h h' : Heap} (x : Ext ge h h') (hg : G.le g g') {vs : List V} {vals : List Value} (r : RvL K g h vs vals) : RvL K g' h' vs vals := by
  induction r with
  | nil => exact .nil
  | cons a b ih => exact .cons (a.ext x hg) ih
theorem RvL.len {K : Frag} {g : G} {h : Heap} {vs : List V} {vals : List Value} (r : RvL K g h vs vals) : vals.length = vs.length := by
  induction r with
  | nil => rfl
  | cons a b ih => simp [ih]
theorem RvL.at {K : Frag} {g : G} {h : Heap} {vs : List V} {vals : List Value} (r : RvL K g h vs vals) : ∀ (i : Nat) (v : V) (x : Value), vs[i]? = some v → vals[i]? = some x → Rv K g h v x := by
  induction r with
  | nil => intro i v x h; simp at h
  | cons a b ih =>
    intro i v x h1 h2
    cases i with
    | zero => simp at h1 h2; subst h1; subst h2; exact a
    | succ i => exact ih i v x (by simpa using h1) (by simpa using h2)

def noStar : Expr → Bool
  | .Starred .. => false
  | _ => true
theorem star_one {e : Expr} {es : List Expr} {env : Env} (h : noStar e = true) : starEach (e :: es) env = (false, eval e env) :: starEach es env := by
  cases e <;> first | rfl | cases h

section
variable (W : Wd) (d : Nat) (f : FC) (A : Around) (Φ : Nat → List V → Sta → Option (V × Sta))
inductive SXs : List Expr → Xs → Prop where
  | nil : SXs [] .nil
  | cons {e : Expr} {x : X} {es : List Expr} {xs : Xs} (h : SX W d f A Φ e x) (hs : noStar e = true) (t : SXs es xs) : SXs (e :: es) (.cons x xs)
end
section
variable {W : Wd} {d : Nat} {f : FC} {A : Around} {Φ : Nat → List V → Sta → Option (V × Sta)}
theorem SXs.plain {es : List Expr} {xs : Xs} (h : SXs W d f A Φ es xs) (pos : Pos) (env : Env) : (backTo pos (starEach es env)).any (·.1) = false ∧ (backTo pos (starEach es env)).all (fun x => !x.1) = true := by
  induction h with
  | nil => exact ⟨rfl, rfl⟩
  | cons h hs t ih => rw [star_one hs]; exact ⟨by show (false || _) = false; rw [Bool.false_or]; exact ih.1, by show (true && _) = true; rw [Bool.true_and]; exact ih.2⟩
theorem args_sound {pos : Pos} {es : List Expr} {xs : Xs} (hs : SXs W d f A Φ es xs) : ∀ {s : Shared} {ρ : List V} {σ σ' : Sta} {g : G} {vs : List V} {Q : List Value → Shared → Prop} {E : Value → Shared → Prop}, At W d f A s ρ σ g → evalXs Φ ρ xs σ = some (vs, σ') →
    (∀ vals s' g', At W d f A s' ρ σ' g' → Ext g' s.heap s'.heap → G.le g g' → RvL W.K g' s'.heap vs vals → Q vals s') → wpAny (model W.p W.w) A (spliced (backTo pos (starEach es f.env))) Q E s := by
  induction hs with
  | nil =>
    intro s ρ σ σ' g vs Q E at_ ev P
    cases ev
    exact spliced_none (P _ _ g at_ (.refl _ _) (.refl g) .nil)
  | cons h hs t ih =>
    intro s ρ σ σ' g vs Q E at_ ev P
    unfold evalXs at ev
    obtain ⟨⟨x, σ₁⟩, ea, ev⟩ := bind_some ev
    obtain ⟨⟨ys, σ₂⟩, eb, ev⟩ := bind_some ev
    cases ev
    refine spliced_more ?_ (star_one hs)
    refine h s ρ σ g x σ₁ at_ ea _ E fun va s₁ g₁ at₁ ex₁ gl₁ r₁ => ?_
    refine ih at₁ eb fun vals s₂ g₂ at₂ ex₂ gl₂ r₂ => P _ s₂ g₂ at₂ (ex₁.trans gl₂ ex₂) (gl₁.trans gl₂) (.cons (r₁.ext ex₂ gl₂) r₂)

/-- a builtin's name, and its call -/
theorem sx_bname (ok : Ok W) {s : Shared} {ρ : List V} {σ : Sta} {g : G} (at_ : At W d f A s ρ σ g) {x : Str} {v : Value} {pos : Pos} {Q E : Value → Shared → Prop} (hb : x ∈ biNames) (hv : bootBuiltins x = some v) (hn : x ≠ "__name__")
    (hk : f.scope.names.lookup x = some .globalImplicit) (hd : (x == ("__debug__" : Str)) = false) (h : Q v s) : wpAny (model W.p W.w) A (eval (.Name x pos) f.env) Q E s := by
  obtain ⟨m, F, _⟩ := at_.fr
  exact name_B F ok.X (topRead_of ok.T) (ok.bi x hb) hv hn h at_.kind hk hd
theorem sx_bcall (ok : Ok W) {x : Str} {id : String} {p pos : Pos} {es : List Expr} {xs : Xs} (hs : SXs W d f A Φ es xs) (hb : x ∈ biNames) (hv : bootBuiltins x = some (.builtin id)) (hn : x ≠ "__name__")
    (hk : f.scope.names.lookup x = some .globalImplicit) (hd : (x == ("__debug__" : Str)) = false) {s : Shared} {ρ : List V} {σ σ' : Sta} {g : G} {vs : List V} {Q : Value → Shared → Prop} {E : Value → Shared → Prop} (at_ : At W d f A s ρ σ g) (ev : evalXs Φ ρ xs σ = some (vs, σ')) (hne : es ≠ [])
    (P : ∀ vals s' g', At W d f A s' ρ σ' g' → Ext g' s.heap s'.heap → G.le g g' → RvL W.K g' s'.heap vs vals → wpAny (model W.p W.w) A (call (.builtin id) vals) Q E s') :
    wpAny (model W.p W.w) A (eval (.Call (.Name x p) es [] pos) f.env) Q E s := by
  refine wpAny_Call_Name_kw (sx_bname ok at_ hb hv hn hk hd ?_)
  refine callWith_builtin (hs.plain pos f.env).1 ?_
  have key := args_sound (pos := pos) hs (Q := fun vs s' => wpAny (model W.p W.w) A (call (.builtin id) ([] ++ vs)) Q E s') (E := E) at_ ev P
  cases hs with
  | nil => exact absurd rfl hne
  | cons h hq t =>
    rw [star_one hq] at key ⊢
    exact evalArgs_plain key
end
end Mine
end

section
open PySem PySem.W PySem.Calls PyProof.Rows
set_option Elab.async false
set_option maxRecDepth 100000
set_option linter.unusedVariables false
namespace Mine

theorem RvL.one {K : Frag} {g : G} {h : Heap} {v : V} {vals : List Value} (r : RvL K g h [v] vals) : ∃ x, vals = [x] ∧ Rv K g h v x := by
  cases r with
  | cons a b => cases b; exact ⟨_, rfl, a⟩
theorem RvL.two {K : Frag} {g : G} {h : Heap} {v u : V} {vals : List Value} (r : RvL K g h [v, u] vals) : ∃ x y, vals = [x, y] ∧ Rv K g h v x ∧ Rv K g h u y := by
  cases r with
  | cons a b => cases b with
    | cons b c => cases c; exact ⟨_, _, rfl, a, b⟩

section
variable {W : Wd} {d : Nat} {f : FC} {A : Around} {Φ : Nat → List V → Sta → Option (V × Sta)}

theorem evalXs_one {ρ : List V} {a : X} {σ σ' : Sta} {x : V} (h : evalX Φ ρ a σ = some (x, σ')) : evalXs Φ ρ (.cons a .nil) σ = some ([x], σ') := by
  simp only [evalXs, h, Option.bind_eq_bind, Option.bind_some]
theorem evalXs_two {ρ : List V} {a b : X} {σ σ' σ'' : Sta} {x y : V} (h : evalX Φ ρ a σ = some (x, σ')) (h2 : evalX Φ ρ b σ' = some (y, σ'')) : evalXs Φ ρ (.cons a (.cons b .nil)) σ = some ([x, y], σ'') := by
  simp only [evalXs, h, h2, Option.bind_eq_bind, Option.bind_some]

theorem sx_len (ok : Ok W) {e : Expr} {a : X} {p pos : Pos} (h1 : SX W d f A Φ e a) (hs : noStar e = true) (hk : f.scope.names.lookup ("len" : Str) = some .globalImplicit) : SX W d f A Φ (.Call (.Name "len" p) [e] [] pos) (.len a) := fun s ρ σ g v σ' at_ h Q E P => by
  unfold evalX at h
  obtain ⟨⟨x, σ₁⟩, ea, h⟩ := bind_some h
  obtain ⟨z, eo, h⟩ := bind_some h
  cases h
  refine sx_bcall ok (.cons h1 hs .nil) (by decide) (id := "len") (by rfl) (by decide) hk (by decide) at_ (evalXs_one ea) (by simp) fun vals s' g' at' ex gl r => ?_
  obtain ⟨va, rfl, ra⟩ := r.one
  cases ra with
  | str x t hx =>
    cases eo
    have hb := lt_fit hx
    refine PyProof.Rows.len_str (by rw [strOf_len]; omega) ?_
    rw [strOf_len]
    exact P _ _ g' (at'.toks _) ex gl (.int _ _)
  | list hl hn hz hi =>
    rename_i vs items a'
    cases eo
    have hb := lt_fit hz
    refine call_len_list hl (by rw [List.size_toArray, hn]; exact hb) ?_
    rw [List.size_toArray, hn]
    exact P _ _ g' (at'.toks _) ex gl (.int _ _)
  | _ => cases eo

theorem sx_ord (ok : Ok W) {e : Expr} {a : X} {p pos : Pos} (h1 : SX W d f A Φ e a) (hs : noStar e = true) (hk : f.scope.names.lookup ("ord" : Str) = some .globalImplicit) : SX W d f A Φ (.Call (.Name "ord" p) [e] [] pos) (.ord a) := fun s ρ σ g v σ' at_ h Q E P => by
  unfold evalX at h
  obtain ⟨⟨x, σ₁⟩, ea, h⟩ := bind_some h
  obtain ⟨z, eo, h⟩ := bind_some h
  cases h
  refine sx_bcall ok (.cons h1 hs .nil) (by decide) (id := "ord") (by rfl) (by decide) hk (by decide) at_ (evalXs_one ea) (by simp) fun vals s' g' at' ex gl r => ?_
  obtain ⟨va, rfl, ra⟩ := r.one
  cases ra with
  | str x t hx =>
    match x, eo, hx with
    | [c], eo, hx =>
      cases eo
      exact ord_of_one (by rfl) (P _ _ g' (at'.toks _) ex gl (.int _ _))
  | _ => cases eo

theorem sx_min (ok : Ok W) {e₁ e₂ : Expr} {a b : X} {p pos : Pos} (h1 : SX W d f A Φ e₁ a) (h2 : SX W d f A Φ e₂ b) (hs : noStar e₁ = true) (hs2 : noStar e₂ = true) (hk : f.scope.names.lookup ("min" : Str) = some .globalImplicit) :
    SX W d f A Φ (.Call (.Name "min" p) [e₁, e₂] [] pos) (.min a b) := fun s ρ σ g v σ' at_ h Q E P => by
  unfold evalX at h
  obtain ⟨⟨x, σ₁⟩, ea, h⟩ := bind_some h
  obtain ⟨⟨y, σ₂⟩, eb, h⟩ := bind_some h
  obtain ⟨z, eo, h⟩ := bind_some h
  cases h
  refine sx_bcall ok (.cons h1 hs (.cons h2 hs2 .nil)) (by decide) (id := "min") (by rfl) (by decide) hk (by decide) at_ (evalXs_two ea eb) (by simp) fun vals s' g' at' ex gl r => ?_
  obtain ⟨va, vb, rfl, ra, rb⟩ := r.two
  cases ra with
  | int i t =>
    cases rb with
    | int j u =>
      cases eo
      refine min_two_ints at'.handled fun h' tk kk => ?_
      have r : Rv W.K g' h' (.int (if j < i then j else i)) (if j < i then .int j u else .int i t) := by
        split
        · exact .int _ _
        · exact .int _ _
      exact P _ _ g' (at'.grow kk) (ex.trans (.refl _) (ext_grow _ kk)) gl r
    | _ => cases eo
  | _ => cases rb <;> cases eo

theorem sx_isStr (ok : Ok W) {e : Expr} {a : X} {p p2 pos : Pos} (h1 : SX W d f A Φ e a) (hs : noStar e = true) (hk : f.scope.names.lookup ("isinstance" : Str) = some .globalImplicit) (hk2 : f.scope.names.lookup ("str" : Str) = some .globalImplicit) :
    SX W d f A Φ (.Call (.Name "isinstance" p) [e, .Name "str" p2] [] pos) (.isStr a) := fun s ρ σ g v σ' at_ h Q E P => by
  unfold evalX at h
  obtain ⟨⟨x, σ₁⟩, ea, h⟩ := bind_some h
  obtain ⟨z, eo, h⟩ := bind_some h
  cases h
  refine wpAny_Call_Name_kw (sx_bname ok at_ (x := "isinstance") (v := .builtin "isinstance") (by decide) (by rfl) (by decide) hk (by decide) ?_)
  refine callWith_builtin (by rw [star_one hs]; rfl) ?_
  rw [star_one hs]
  refine evalArgs_plain ?_
  show wpAny _ _ (spliced ((false, eval e f.env) :: backTo pos (starEach [.Name "str" p2] f.env))) _ _ _
  refine spliced_cons ?_
  refine h1 s ρ σ g x _ at_ ea _ E fun va s₁ g₁ at₁ ex₁ gl₁ ra => ?_
  refine spliced_more ?_
  refine sx_bname ok at₁ (x := "str") (v := .type "str") (by decide) (by rfl) (by decide) hk2 (by decide) ?_
  refine spliced_none ?_
  cases ra with
  | str x t hx =>
    cases eo
    exact call_isinstance_yes (typeIs_str _ _ _) (by rfl) (by rfl) (P _ _ g₁ at₁ ex₁ gl₁ (.bool true))
  | _ => cases eo

theorem sx_inset (ok : Ok W) {e₁ e₂ : Expr} {a b : X} {n : Bool} {pos} (h1 : SX W d f A Φ e₁ a) (h2 : SX W d f A Φ e₂ b) (hm : behindInMarks (if n then .NotIn else .In) e₂ = false) :
    SX W d f A Φ (.Compare e₁ [if n then .NotIn else .In] [e₂] pos) (.inset n a b) := fun s ρ σ g v σ' at_ h Q E P => by
  unfold evalX at h
  obtain ⟨⟨x, σ₁⟩, ea, h⟩ := bind_some h
  obtain ⟨⟨y, σ₂⟩, eb, h⟩ := bind_some h
  obtain ⟨z, eo, h⟩ := bind_some h
  cases h
  refine wpAny_Compare1 (sx_two h1 h2 at_ ea eb fun va vb s' g' at' ex gl ra rb => ?_) hm
  cases ra with
  | str x t hx =>
    cases rb with
    | set k =>
      cases eo
      obtain ⟨o, S, m, ho, hso, hm4, hS⟩ := ok.set k
      obtain ⟨_, F, _⟩ := at'.fr
      cases n with
      | true =>
        refine notin_argsetS F hso ho hm4 ?_
        rw [hS]
        refine P _ _ g' (at'.toks _) ex gl ?_
        have e : (true != (setTx k).contains x) = !(setTx k).contains x := by cases (setTx k).contains x <;> rfl
        rw [e]; exact .bool _
      | false =>
        refine in_argsetS F hso ho hm4 ?_
        rw [hS]
        have := P (.bool ((setTx k).contains x)) { s' with toks := s'.toks + 1 } g' (at'.toks _) ex gl (by
          have e : (false != (setTx k).contains x) = (setTx k).contains x := by cases (setTx k).contains x <;> rfl
          rw [e]; exact .bool _)
        exact this
    | _ => cases eo
  | _ => cases rb <;> cases eo

theorem sx_glb (ok : Ok W) {x : Str} {k : Nat} {pos} (hx : glbNames[k]? = some x) (hk : 10 < k) (hn : f.scope.names.lookup x = some .globalImplicit) (hd : (x == ("__debug__" : Str)) = false) : SX W d f A Φ (.Name x pos) (.glb k) := fun s ρ σ g v σ' at_ h Q E P => by
  unfold evalX at h
  obtain ⟨z, eo, h⟩ := bind_some h
  cases h
  obtain ⟨val, r, hh, q⟩ := ok.glb k v x eo hx
  rw [if_neg (by omega)] at q
  obtain ⟨m, F, _⟩ := at_.fr
  exact name_K F ok.X (topRead_of ok.T) q (P _ _ g at_ (.refl _ _) (.refl g) (r.ext (ext_grow none F.keep) (fun _ e => by cases e))) at_.kind hn hd
theorem sx_attr (ok : Ok W) {x : Str} {k : Nat} {p pos} (hx : glbNames[k]? = some x) (hk : k ≤ 10) (hn : f.scope.names.lookup ("PorterStemmer" : Str) = some .globalImplicit) : SX W d f A Φ (.Attribute (.Name "PorterStemmer" p) x pos) (.glb k) := fun s ρ σ g v σ' at_ h Q E P => by
  unfold evalX at h
  obtain ⟨z, eo, h⟩ := bind_some h
  cases h
  obtain ⟨val, r, hh, q⟩ := ok.glb k v x eo hx
  rw [if_pos hk] at q
  obtain ⟨m, F, _⟩ := at_.fr
  refine Attribute_Name_ ?_ rfl
  refine name_K F ok.X (topRead_of ok.T) ok.cls ?_ at_.kind hn (by decide)
  exact cls_val F ok.X ok.ctype.1 ok.ctype.2 q hh (P _ _ g (at_.toks _) (.refl _ _) (.refl g) (r.ext (ext_grow none F.keep) (fun _ e => by cases e)))

def aatName : Nat → Str
  | 0 => "s" | 1 => "substring_i" | _ => "result"
theorem sx_aat (ok : Ok W) {o : Str} {i k : Nat} {p pos} (hk : f.scope.names.lookup o = some .local) (hd : (o == ("__debug__" : Str)) = false) (hi : f.nm[i]? = some o) : SX W d f A Φ (.Attribute (.Name o p) (aatName k) pos) (.aat i k) := fun s ρ σ g v σ' at_ h Q E P => by
  unfold evalX at h
  obtain ⟨u, eu, h⟩ := bind_some h
  obtain ⟨z, eo, h⟩ := bind_some h
  cases h
  refine Attribute_Name_ ?_ rfl
  have hx : SX W d f A Φ (.Name o p) (.loc i) := sx_loc hk hd hi
  refine hx s ρ σ g u σ at_ (by unfold evalX; rw [eu]; rfl) _ E fun val s' g' a' ex gl r => ?_
  cases r with
  | among hA =>
    obtain ⟨qz, dd, es, n, t1, t2, t3, sl, q1, q2, q3, q4, q5⟩ := hA
    obtain ⟨m, F, _⟩ := a'.fr
    have I := InstAt.of_K (ok.X.keeps F.keep) q1 q2
    match k, eo with
    | 0, eo =>
      cases eo
      obtain ⟨k1, k2⟩ := ok.am.2 "s" (by decide)
      exact get_own F ok.X I k1 ok.am.1 k2 rfl q3 rfl (P _ _ g' (a'.toks _) ex gl (.str _ _ qz))
    | 1, eo =>
      cases eo
      obtain ⟨k1, k2⟩ := ok.am.2 "substring_i" (by decide)
      exact get_own F ok.X I k1 ok.am.1 k2 rfl q4 rfl (P _ _ g' (a'.toks _) ex gl (.int _ _))
    | 2, eo =>
      cases eo
      obtain ⟨k1, k2⟩ := ok.am.2 "result" (by decide)
      exact get_own F ok.X I k1 ok.am.1 k2 rfl q5 rfl (P _ _ g' (a'.toks _) ex gl (.int _ _))
  | _ => cases k with
    | zero => cases eo
    | succ k => cases k with
      | zero => cases eo
      | succ k => cases k <;> cases eo
end
end Mine
end

section
open PySem PySem.W PySem.Calls PyProof.Rows
set_option Elab.async false
set_option maxRecDepth 100000
set_option linter.unusedVariables false
namespace Mine

def noCall : Expr → Bool
  | .Call .. => false
  | _ => true
theorem base_plain {o : Expr} {x : Str} {env : Env} (h : noCall o = true) : attributeBase o x env (eval o env) = eval o env := by
  cases o <;> first | rfl | cases h
def xsOf : List Tx → Xs
  | [] => .nil
  | c :: r => .cons (.cst (.str c)) (xsOf r)

theorem endsw_eq (a b : Tx) : Txt.endswith (strOf a) (strOf b) = b.isSuffixOf a := by
  unfold Txt.endswith
  rw [StrLaws.subAt_eq, strOf_len, strOf_len]
  show (decide (0 + b.length ≤ a.length) && ((a.drop (a.length - b.length)).take b.length == b)) = _
  rw [Nat.zero_add]
  by_cases h : b.length ≤ a.length
  · have e : (a.drop (a.length - b.length)).take b.length = a.drop (a.length - b.length) := List.take_of_length_le (by rw [List.length_drop]; omega)
    rw [e, decide_eq_true h, Bool.true_and]
    rw [Bool.eq_iff_iff, beq_iff_eq, List.isSuffixOf_iff_suffix]
    constructor
    · intro q; rw [← q]; exact List.drop_suffix _ _
    · intro q
      obtain ⟨t, rfl⟩ := q
      simp
  · rw [decide_eq_false h, Bool.false_and]
    symm
    rw [Bool.eq_false_iff]
    intro q
    exact h (List.isSuffixOf_iff_suffix.mp q).length_le

section
variable {W : Wd} {d : Nat} {f : FC} {A : Around} {Φ : Nat → List V → Sta → Option (V × Sta)}

theorem sx_endsw {e₁ e₂ : Expr} {a b : X} {apos pos : Pos} (h1 : SX W d f A Φ e₁ a) (h2 : SX W d f A Φ e₂ b) (hc : noCall e₁ = true) (hs : noStar e₂ = true) (hl : (apos.endLine == pos.line) = true) :
    SX W d f A Φ (.Call (.Attribute e₁ "endswith" apos) [e₂] [] pos) (.endsw a b) := fun s ρ σ g v σ' at_ h Q E P => by
  unfold evalX at h
  obtain ⟨⟨x, σ₁⟩, ea, h⟩ := bind_some h
  obtain ⟨⟨y, σ₂⟩, eb, h⟩ := bind_some h
  obtain ⟨z, eo, h⟩ := bind_some h
  cases h
  refine wpAny_Call_method_lateS (base_plain hc) (by rw [star_one hs]; rfl) hl ?_
  refine h1 s ρ σ g x σ₁ at_ ea _ E fun va s₁ g₁ at₁ ex₁ gl₁ ra => ?_
  cases ra with
  | str x t hx =>
    rw [star_one hs]
    refine SB.endswith ?_
    refine h2 s₁ ρ σ₁ g₁ y _ at₁ eb _ E fun vb s₂ g₂ at₂ ex₂ gl₂ rb => ?_
    cases rb with
    | str y u hy =>
      cases eo
      refine ⟨_, _, rfl, ?_⟩
      rw [endsw_eq]
      exact P _ _ g₂ at₂ (ex₁.trans gl₂ ex₂) (gl₁.trans gl₂) (.bool _)
    | _ => cases eo
  | _ => cases y <;> cases eo

theorem evalXs_of (cs : List Tx) (ρ : List V) (σ : Sta) : evalXs Φ ρ (xsOf cs) σ = some (cs.map .str, σ) := by
  induction cs with
  | nil => rfl
  | cons c r ih =>
    unfold xsOf evalXs
    have e : evalX Φ ρ (.cst (.str c)) σ = some (.str c, σ) := by unfold evalX; rfl
    rw [e]
    simp only [Option.bind_eq_bind, Option.bind_some, ih, List.map]

def isTx (x : Tx) : Value → Bool
  | .str y _ => y.cps.toList == x
  | _ => false
theorem any_isTx {K : Frag} {g : G} {h : Heap} (x : Tx) : ∀ {cs : List Tx} {vals : List Value}, RvL K g h (cs.map .str) vals → vals.any (isTx x) = cs.contains x
  | [], _, .nil => rfl
  | c :: r, _, .cons a b => by
    cases a
    show (_ || _) = _
    rw [any_isTx x b, List.contains_cons]
    congr 1
    show (c == x) = (x == c)
    rw [Bool.eq_iff_iff, beq_iff_eq, beq_iff_eq]; exact eq_comm

theorem sx_inl {e₁ : Expr} {elts : List Expr} {a : X} {cs : List Tx} {lp pos} (h1 : SX W d f A Φ e₁ a) (h2 : SXs W d f A Φ elts (xsOf cs)) (hz : cs.length ≤ 1000) :
    SX W d f A Φ (.Compare e₁ [.In] [.List elts lp] pos) (.inl a cs) := fun s ρ σ g v σ' at_ h Q E P => by
  unfold evalX at h
  obtain ⟨⟨x, σ₁⟩, ea, h⟩ := bind_some h
  obtain ⟨z, eo, h⟩ := bind_some h
  cases h
  refine wpAny_Compare1 ?_ rfl
  refine h1 s ρ σ g x _ at_ ea _ E fun va s₁ g₁ at₁ ex₁ gl₁ ra => ?_
  refine List_ ?_
  refine args_sound h2 at₁ (evalXs_of cs ρ _) fun vals s₂ g₂ at₂ ex₂ gl₂ rl => ?_
  have hlen : vals.length = cs.length := by rw [rl.len, List.length_map]
  refine wpAny_newList ?_ (by rw [hlen]; exact Nat.le_trans hz (by decide))
  have ra' := ra.ext ex₂ gl₂
  cases ra' with
  | str x t hx =>
    cases eo
    refine PySem.SeqAt.in_listAt (isTx x) (items := vals.toArray) ⟨_, Heap.get?_push_size _ rfl, rfl, _, rfl⟩ (fun y hy => ?_) ?_
    · obtain ⟨i, hi⟩ := List.getElem?_of_mem (List.mem_toArray.mp hy)
      have hi' : i < vals.length := (List.getElem?_eq_some_iff.mp hi).1
      obtain ⟨c, hc⟩ : ∃ c, cs[i]? = some c := ⟨cs[i]'(by omega), List.getElem?_eq_getElem _⟩
      have := rl.at i (.str c) y (by rw [List.getElem?_map, hc]; rfl) hi
      cases this
      exact (SeqRoads2.EqGives.str _ _ _ _).at _ _
    · have e : vals.toArray.any (isTx x) = cs.contains x := by rw [List.any_toArray]; exact any_isTx x rl
      rw [e]
      exact P _ _ g₂ (at₂.push _ _) ((ex₁.trans gl₂ ex₂).trans (.refl _) (.push _ _ _)) (gl₁.trans gl₂) (.bool _)
  | _ => cases eo

theorem sx_list {elts : List Expr} {xs : Xs} {pos} (h2 : SXs W d f A Φ elts xs) (hz : elts.length ≤ 1000) : SX W d f A Φ (.List elts pos) (.list xs) := fun s ρ σ g v σ' at_ h Q E P => by
  unfold evalX at h
  obtain ⟨⟨vs, σ₁⟩, ea, h⟩ := bind_some h
  cases h
  refine List_ ?_
  refine args_sound h2 at_ ea fun vals s₂ g₂ at₂ ex₂ gl₂ rl => ?_
  have hv : vs.length ≤ 1000 := by
    have : ∀ {es : List Expr} {xs : Xs}, SXs W d f A Φ es xs → ∀ {σ σ' : Sta} {vs : List V}, evalXs Φ ρ xs σ = some (vs, σ') → vs.length = es.length := by
      intro es xs h
      induction h with
      | nil => intro σ σ' vs e; cases e; rfl
      | cons h hs t ih =>
        intro σ σ' vs e
        unfold evalXs at e
        obtain ⟨⟨x, σ₁⟩, ea, e⟩ := bind_some e
        obtain ⟨⟨ys, σ₂⟩, eb, e⟩ := bind_some e
        cases e
        simp [ih eb]
    rw [this h2 ea]; exact hz
  refine wpAny_newList ?_ (by rw [rl.len]; exact Nat.le_trans hv (by decide))
  have kk : ∀ b o, s₂.heap.get? b = some o → (s₂.heap.push { cls := .type "list", data := .seq vals.toArray }).get? b = some o := fun b o e => Heap.get?_push_of_some _ e
  exact P _ _ g₂ (at₂.push _ _) (ex₂.trans (.refl _) (.push _ _ _)) gl₂ (.list (items := vals) ⟨_, Heap.get?_push_size _ rfl, rfl, _, rfl⟩ rl.len (Nat.le_trans hv (by decide)) fun i v x h1 h2 => (rl.at i v x h1 h2).ext (ext_grow none kk) (.refl _))
theorem sx_tup {elts : List Expr} {xs : Xs} {k pos} (h2 : SXs W d f A Φ elts xs) (hz : elts.length ≤ 1000) : SX W d f A Φ (.Tuple elts k pos) (.tup xs) := fun s ρ σ g v σ' at_ h Q E P => by
  unfold evalX at h
  obtain ⟨⟨vs, σ₁⟩, ea, h⟩ := bind_some h
  cases h
  refine Tuple_ ?_
  refine args_sound h2 at_ ea fun vals s₂ g₂ at₂ ex₂ gl₂ rl => ?_
  have hv : vs.length ≤ 1000 := by
    have : ∀ {es : List Expr} {xs : Xs}, SXs W d f A Φ es xs → ∀ {σ σ' : Sta} {vs : List V}, evalXs Φ ρ xs σ = some (vs, σ') → vs.length = es.length := by
      intro es xs h
      induction h with
      | nil => intro σ σ' vs e; cases e; rfl
      | cons h hs t ih =>
        intro σ σ' vs e
        unfold evalXs at e
        obtain ⟨⟨x, σ₁⟩, ea, e⟩ := bind_some e
        obtain ⟨⟨ys, σ₂⟩, eb, e⟩ := bind_some e
        cases e
        simp [ih eb]
    rw [this h2 ea]; exact hz
  refine wpAny_newTuple ?_ (by rw [rl.len]; exact Nat.le_trans hv (by decide))
  have kk : ∀ b o, s₂.heap.get? b = some o → (s₂.heap.push { cls := .type "tuple", data := .seq vals.toArray }).get? b = some o := fun b o e => Heap.get?_push_of_some _ e
  exact P _ _ g₂ (at₂.push _ _) (ex₂.trans (.refl _) (.push _ _ _)) gl₂ (.tup (items := vals) ⟨_, Heap.get?_push_size _ rfl, rfl, _, rfl⟩ rl.len (Nat.le_trans hv (by decide)) fun i v x h1 h2 => (rl.at i v x h1 h2).ext (ext_grow none kk) (.refl _))
end
end Mine
end

section
open PySem PySem.W PySem.Calls PyProof.Rows
set_option Elab.async false
set_option maxRecDepth 100000
set_option linter.unusedVariables false
namespace Mine

/-- the defs: is it a method, its name, its function object -/
def fnOne (b : Bool) (x : Str) (a : Addr) : Bool × Str × Addr := (b, x, a)
def fnTab : List (Bool × Str × Addr) := [fnOne true "in_grouping" 63, fnOne true "go_in_grouping" 70, fnOne true "in_grouping_b" 77, fnOne true "go_out_grouping" 98, fnOne true "out_grouping_b" 105, fnOne true "go_out_grouping_b" 112, fnOne true "find_among_b" 140, fnOne true "replace_s" 147, fnOne true "slice_from" 154, fnOne true "slice_del" 161, fnOne true "insert" 168, fnOne true "set_current" 42, fnOne true "get_current" 49, fnOne true "__init__" 35, fnOne true "stemWord" 189, fnOne true "r_shortv" 240, fnOne true "r_R1" 247, fnOne true "r_R2" 254, fnOne true "r_Step_1a" 261, fnOne true "r_Step_1b" 268, fnOne true "r_Step_1c" 275, fnOne true "r_Step_2" 282, fnOne true "r_Step_3" 289, fnOne true "r_Step_4" 296, fnOne true "r_Step_5a" 303, fnOne true "r_Step_5b" 310, fnOne true "_stem" 317, fnOne false "_law_PIECES" 575, fnOne false "_law_vowel" 631, fnOne false "_law_marked" 638, fnOne false "_law_region" 645, fnOne false "_law_short" 652, fnOne false "_law_longest" 659, fnOne false "_law_look" 664, fnOne false "law" 671]
def labAddr : Nat → Addr
  | 0 => 539 | 1 => 552 | _ => 565
def labName : Nat → Str
  | 0 => "lab0" | 1 => "lab1" | _ => "lab2"
structure OkF (W : Wd) : Prop where
  lab : ∀ k, nsIn W.K mainGlobals (labName k) = some (some (Value.ref (labAddr k))) ∧ excIn W.K (labAddr k) [.type "Exception", .type "BaseException", .type "object"] "Exception.__new__" = true
  ok : Ok W
  fn : ∀ (i : Nat) (b : Bool) (x : Str) (fa : Addr), fnTab[i]? = some (b, x, fa) → keepIn W.K (.ref fa) = true ∧ isFn W.K (.ref fa) = true ∧
    (if b then plainGet W.K 527 x = true ∧ findIn W.K (.ref 527) x = some (some (Value.ref fa)) ∧ (∀ fl : Fld, x ≠ fl.name) else nsIn W.K mainGlobals x = some (some (Value.ref fa)))
  make : makesIn W.K 527 = true ∧ findIn W.K (.ref 527) "__init__" = some (some (.ref 35)) ∧ keepIn W.K (.ref 527) = true

/-- the surroundings of a call within a frame -/
structure Near (A A' : Around) : Prop where
  frames : A'.frames = A.frames
  handled : A'.handled = none
  depth : A'.depth ≤ A.depth + 2
  units : A'.units ≤ A.units + 6
theorem At.near {W : Wd} {d : Nat} {f : FC} {A : Around} {s : Shared} {ρ : List V} {σ : Sta} {g : G} (a : At W d f A s ρ σ g) : Near A A := ⟨rfl, a.handled, by omega, by omega⟩

/-- a call does what the small language says -/
def SPhi (W : Wd) (d : Nat) (Φ : Nat → List V → Sta → Option (V × Sta)) : Prop := ∀ (i : Nat) (b : Bool) (x : Str) (fa : Addr) (vs : List V) (vals : List Value) (v : V) (σ σ' : Sta) (f : FC) (A A' : Around) (s : Shared) (ρ : List V) (g : G),
  fnTab[i]? = some (b, x, fa) → At W d f A s ρ σ g → Near A A' → RvL W.K g s.heap vs vals → Φ i vs σ = some (v, σ') → ∀ (Q : Value → Shared → Prop) (R : Result → Shared → Prop), PostX W d f A s ρ g v σ' Q → (∀ val s', Q val s' → R (.ok (.ret val)) s') →
  codeAny (model W.p W.w) A' (.call (.ref fa) ⟨vals, []⟩) R s

section
variable {W : Wd} {d : Nat} {f : FC} {A : Around} {Φ : Nat → List V → Sta → Option (V × Sta)}

theorem SPhi.call (h : SPhi W d Φ) {i : Nat} {b : Bool} {x : Str} {fa : Addr} {vs : List V} {vals : List Value} {v : V} {σ σ' : Sta} {s : Shared} {ρ : List V} {g : G} (hi : fnTab[i]? = some (b, x, fa)) (at_ : At W d f A s ρ σ g) (r : RvL W.K g s.heap vs vals)
    (ev : Φ i vs σ = some (v, σ')) {Q E : Value → Shared → Prop} (P : PostX W d f A s ρ g v σ' Q) : wpAny (model W.p W.w) A (call (.ref fa) vals) Q E s :=
  wpAny_call (h i b x fa vs vals v σ σ' f A A s ρ g hi at_ at_.near r ev Q _ P fun val s' q => q)

theorem eargs {pos : Pos} {es : List Expr} {xs : Xs} {fv : Value} (hs : SXs W d f A Φ es xs) {s : Shared} {ρ : List V} {σ σ' : Sta} {g : G} {vs : List V} {Q : Args → Shared → Prop} {E : Value → Shared → Prop} (at_ : At W d f A s ρ σ g) (ev : evalXs Φ ρ xs σ = some (vs, σ'))
    (P : ∀ vals s' g', At W d f A s' ρ σ' g' → Ext g' s.heap s'.heap → G.le g g' → RvL W.K g' s'.heap vs vals → Q ⟨vals, []⟩ s') : wpAny (model W.p W.w) A (evalArgs fv true (backTo pos (starEach es f.env)) []) Q E s := by
  have key := args_sound (pos := pos) hs (Q := fun vs s' => Q ⟨vs, []⟩ s') (E := E) at_ ev P
  cases hs with
  | nil =>
    cases ev
    exact evalArgs_nil3 (P _ _ g at_ (.refl _ _) (.refl g) .nil)
  | cons h hq t =>
    rw [star_one hq] at key ⊢
    exact evalArgs_plain key

theorem In_at (ok : Ok W) {s : Shared} {ρ : List V} {σ : Sta} {g : G} (at_ : At W d f A s ρ σ g) : W.K.In s.heap := by
  obtain ⟨m, F, _⟩ := at_.fr
  exact ok.X.keeps F.keep

theorem fncall (ok : OkF W) (hΦ : SPhi W d Φ) {i : Nat} {b : Bool} {x : Str} {fa : Addr} (hi : fnTab[i]? = some (b, x, fa)) {pos : Pos} {es : List Expr} {xs : Xs} (hs : SXs W d f A Φ es xs) {s : Shared} {ρ : List V} {σ σ₁ σ' : Sta} {g : G} {us vs : List V} {first : List Value} {v : V} {Q : Value → Shared → Prop} {E : Value → Shared → Prop}
    (at_ : At W d f A s ρ σ g) (ev : evalXs Φ ρ xs σ = some (vs, σ₁)) (rf : RvL W.K g s.heap us first) (hc : Φ i (us ++ vs) σ₁ = some (v, σ')) (P : PostX W d f A s ρ g v σ' Q) :
    wpAny (model W.p W.w) A (callWith pos (.ref fa) first (backTo pos (starEach es f.env)) []) Q E s := by
  refine callWith_of (P := fun h => W.K.In h) (by rw [(hs.plain pos f.env).1]; rfl) (keeps_K (ok.fn i b x fa hi).1) ?_
  refine eargs hs at_ ev fun vals s₁ g₁ at₁ ex₁ gl₁ r₁ => ⟨In_at ok.ok at₁, ?_⟩
  have app : ∀ {us : List V} {first : List Value}, RvL W.K g₁ s₁.heap us first → RvL W.K g₁ s₁.heap (us ++ vs) (first ++ vals) := by
    intro us first r
    induction r with
    | nil => exact r₁
    | cons a b ih => exact .cons a ih
  exact hΦ.call hi at₁ (app (rf.ext ex₁ gl₁)) hc fun val s' g' at' ex gl r => P val s' g' at' (ex₁.trans gl ex) (gl₁.trans gl) r

theorem sx_def (ok : OkF W) (hΦ : SPhi W d Φ) {i : Nat} {x : Str} {fa : Addr} (hi : fnTab[i]? = some (false, x, fa)) {p pos : Pos} {es : List Expr} {xs : Xs} (hs : SXs W d f A Φ es xs) (hn : f.scope.names.lookup x = some .globalImplicit) (hd : (x == ("__debug__" : Str)) = false) :
    SX W d f A Φ (.Call (.Name x p) es [] pos) (.call i xs) := fun s ρ σ g v σ' at_ h Q E P => by
  unfold evalX at h
  obtain ⟨⟨vs, σ₁⟩, ea, h⟩ := bind_some h
  obtain ⟨m, F, _⟩ := at_.fr
  refine wpAny_Call_Name_kw (name_K F ok.ok.X (topRead_of ok.ok.T) (ok.fn i _ x fa hi).2.2 ?_ at_.kind hn hd)
  exact fncall ok hΦ hi hs (us := []) at_ ea .nil h P

theorem sx_meth (ok : OkF W) (hΦ : SPhi W d Φ) {i j : Nat} {o x : Str} {fa : Addr} (hi : fnTab[i]? = some (true, x, fa)) {p apos pos : Pos} {es : List Expr} {xs : Xs} (hs : SXs W d f A Φ es xs) (hk : f.scope.names.lookup o = some .local) (hd : (o == ("__debug__" : Str)) = false) (hj : f.nm[j]? = some o)
    (hl : (apos.endLine == pos.line) = true) (hlen : es.length < 29) : SX W d f A Φ (.Call (.Attribute (.Name o p) x apos) es [] pos) (.meth i j xs) := fun s ρ σ g v σ' at_ h Q E P => by
  unfold evalX at h
  split at h
  case h_2 => cases h
  rename_i hu
  obtain ⟨⟨vs, σ₂⟩, e1, h2⟩ := bind_some h
  clear h
  have hx : SX W d f A Φ (.Name o p) (.loc j) := sx_loc hk hd hj
  rw [arm_eval_Call]
  refine wpAny_bind ?_
  rw [base_plain rfl]
  refine hx s ρ σ g .slf σ at_ (by unfold evalX; rw [hu]; rfl) _ E fun val s' g' a' ex gl r => ?_
  refine wpAny_bind (wpAny_standAt ?_)
  cases r with
  | slf hg =>
    rename_i xa dx
    have hσ : ∃ st, σ = some st := by
      cases σ with
      | none => rw [a'.sr.non.mp rfl] at hg; cases hg
      | some st => exact ⟨st, rfl⟩
    obtain ⟨st, rfl⟩ := hσ
    obtain ⟨q1, q2, q3, q4, es', n, q5, q6⟩ := a'.sr.some st xa dx rfl hg
    obtain ⟨m, F, _⟩ := a'.fr
    obtain ⟨k0, k1, k2, k3, k4⟩ := ok.fn i _ x fa hi
    unfold methodCall
    have hform : methodCallForm (es.length + ([] : List Keyword).length) (backTo pos (starEach es f.env)) (backToKw pos (keywordEach [] f.env)) = true := by
      unfold methodCallForm
      rw [(hs.plain pos f.env).2]
      show (true && true && decide (es.length + 0 + 0 < 30)) = true
      rw [decide_eq_true (by omega)]; rfl
    rw [hform]
    refine wpAny_bind (wpAny_holding ?_)
    show wpAny _ _ (getMethod _ _ _) _ _ _
    refine method_inst F ok.ok.X (inst_at q4 q5) k2 k3 k1 (q6.other x k4) ?_
    have hpos : methodCallPos true (.Name o p) f.env apos pos = pure pos := by unfold methodCallPos; simp [hl]
    refine wpAny_bind (wpAny_of_eq hpos ?_)
    exact fncall ok hΦ hi hs (us := [.slf]) a' e1 (.cons (.slf hg) .nil) h2 fun val s' g' at' ex' gl' r => P val s' g' at' (ex.trans gl' ex') (gl.trans gl') r
end
end Mine
end

section
open PySem PySem.W PySem.Calls PyProof.Rows
set_option Elab.async false
set_option maxRecDepth 100000
set_option linter.unusedVariables false
namespace Mine
section
variable {W : Wd} {d : Nat} {f : FC} {A : Around} {Φ : Nat → List V → Sta → Option (V × Sta)}

def emptyStem : Stem := ⟨.none, .none, .none, .none, .none, .none, .none, .none⟩
theorem flds_empty (K : Frag) : Flds K [] emptyStem where
  val := fun f v h => absurd h (by cases f <;> (intro h; cases h))
  non := fun f _ => rfl
  other := fun x _ => rfl
  keys := by decide

theorem none_of_size {h : Heap} {a : Addr} (ha : h.objs.size ≤ a) : h.get? a = none := by
  cases e : h.get? a with
  | none => rfl
  | some o => exact absurd (Heap.lt_size e) (Nat.not_lt.mpr ha)

/-- the caller's frame once the stemmer's instance and dict are there -/
theorem at_new {s : Shared} {ρ : List V} (a : At W d f A s ρ none none) :
    At W d f A { s with heap := (s.heap.push emptyDict).push (instObj 527 s.heap.objs.size) } ρ (some emptyStem) (some (s.heap.objs.size + 1, s.heap.objs.size)) := by
  have k : ∀ b o, s.heap.get? b = some o → ((s.heap.push emptyDict).push (instObj 527 s.heap.objs.size)).get? b = some o := fun b o e => Heap.get?_push_of_some _ (Heap.get?_push_of_some _ e)
  obtain ⟨m, F, l⟩ := a.fr
  have gl : G.le none (some (s.heap.objs.size + 1, s.heap.objs.size)) := fun p e => by cases e
  obtain ⟨oL, esL, epL, hL, rL⟩ := F.ns
  have hLs : f.L < s.heap.objs.size := Heap.lt_size hL
  have hbs : W.hb.objs.size ≤ s.heap.objs.size := Nat.le_trans F.above (Nat.le_of_lt hLs)
  refine { fr := ⟨m, fr_grow F k, fun i x v h1 h2 h3 => let ⟨val, q, r⟩ := l i x v h1 h2 h3; ⟨val, q, r.ext (ext_grow none k) gl⟩⟩, len := a.len, fo := ?_, sr := ⟨?_, ?_⟩, off := ?_, gens := a.gens, os := a.os, kind := a.kind, handled := a.handled, frames := a.frames, depth := a.depth, units := a.units }
  · intro e he
    obtain ⟨q1, Lf, o, q2, q3, q4, q5, q6, q7⟩ := a.fo e he
    refine ⟨q1, Lf, o, q2, q3, q4, fun x d e => ?_, k _ _ q6, q7⟩
    cases e
    have := Heap.lt_size q6
    exact fun e => by rw [e] at this; exact absurd this (Nat.lt_irrefl _)
  · exact ⟨fun e => (by cases e), fun e => (by cases e)⟩
  · intro st x d e1 e2
    cases e1; cases e2
    refine ⟨none_of_size (Nat.le_succ_of_le hbs), none_of_size hbs, Nat.succ_ne_self _, ?_, [], 0, ?_, flds_empty _⟩
    · have := Heap.get?_push_size (h := s.heap.push emptyDict) (o := instObj 527 s.heap.objs.size) rfl
      rw [Heap.size_push] at this
      exact this
    · exact Heap.get?_push_of_some _ (Heap.get?_push_size _ rfl)
  · intro x d e
    cases e
    exact ⟨Nat.ne_of_gt (Nat.lt_succ_of_lt hLs), Nat.ne_of_gt hLs⟩

theorem sx_new (ok : OkF W) (hΦ : SPhi W d Φ) {p pos : Pos} (hn : f.scope.names.lookup ("PorterStemmer" : Str) = some .globalImplicit) : SX W d f A Φ (.Call (.Name "PorterStemmer" p) [] [] pos) (.new 13) := fun s ρ σ g v σ' at_ h Q E P => by
  unfold evalX at h
  cases σ with
  | some st => cases h
  | none =>
    obtain ⟨⟨u, σ₁⟩, ea, h⟩ := bind_some h
    have hu : u = .none ∧ v = .slf ∧ σ₁ = σ' := by cases u <;> first | (cases h; done) | (cases h; exact ⟨rfl, rfl, rfl⟩)
    obtain ⟨rfl, rfl, rfl⟩ := hu
    have hg : g = none := at_.sr.non.mp rfl
    subst hg
    obtain ⟨m, F, _⟩ := at_.fr
    refine wpAny_Call_Name_kw (name_K F ok.ok.X (topRead_of ok.ok.T) ok.ok.cls ?_ at_.kind hn (by decide))
    refine callWith_of (P := fun h => W.K.In h) rfl (keeps_K ok.make.2.2) ?_
    refine evalArgs_nil3 ⟨In_at ok.ok at_, ?_⟩
    refine wpAny_call ?_
    have X := In_at ok.ok at_
    obtain ⟨hh, gg, dd, tt, oss⟩ := s
    obtain ⟨_, k1, _⟩ := ok.fn 13 true "__init__" 35 rfl
    refine make_core (makes_of X ok.make.1) (looks_findIn X ok.make.2.1) (fun self => bind_fn X self (beq_iff_eq.mp k1)) (.inl rfl) ?_
    have at2 := at_new at_
    have key := hΦ 13 true "__init__" 35 [.slf] [.ref (hh.objs.size + 1)] .none (some emptyStem) σ₁ f A (A.under (.builtin "type.__call__" ⟨[.ref 527], []⟩)) _ ρ _ rfl at2 ?_ (.cons (.slf rfl) .nil) ea
    · refine key (fun val s' => val = .none ∧ Q (.ref (hh.objs.size + 1)) s') _ ?_ (fun val s' q => q)
      intro val s' g' at' ex gl r
      cases r
      refine ⟨rfl, P _ s' g' at' ?_ (fun p e => by cases e) (.slf (gl _ rfl))⟩
      have k : ∀ b o, hh.get? b = some o → ((hh.push emptyDict).push (instObj 527 hh.objs.size)).get? b = some o := fun b o e => Heap.get?_push_of_some _ (Heap.get?_push_of_some _ e)
      exact (ext_grow _ k).trans (.refl _) ex
    · refine ⟨rfl, at_.handled, ?_, ?_⟩
      · show A.depth + _ ≤ _
        exact Nat.add_le_add_left (by decide) _
      · show A.units + _ ≤ _
        exact Nat.add_le_add_left (by decide) _
end
end Mine
end

section
open PySem PySem.W PySem.Calls PyProof.Rows
set_option Elab.async false
set_option maxRecDepth 100000
set_option linter.unusedVariables false
namespace Mine
section
variable (W : Wd) (d : Nat) (f : FC) (A : Around) (Φ : Nat → List V → Sta → Option (V × Sta))
/-- what a walked test hands on -/
def PostT (s : Shared) (ρ : List V) (g : G) (b : Bool) (σ' : Sta) (Q : Bool → Shared → Prop) : Prop :=
  ∀ s' g', At W d f A s' ρ σ' g' → Ext g' s.heap s'.heap → G.le g g' → Q b s'
/-- the test is what the small language says -/
def ST (e : Expr) (t : T) : Prop := ∀ (s : Shared) (ρ : List V) (σ : Sta) (g : G) (b : Bool) (σ' : Sta), At W d f A s ρ σ g → evalT Φ ρ t σ = some (b, σ') →
  ∀ (Q : Bool → Shared → Prop) (E : Value → Shared → Prop) (whole : Sem Value), whole = eval e f.env → PostT W d f A s ρ g b σ' Q → wpAny (model W.p W.w) A (isTrue e f.env whole) Q E s
end

def plainT : Expr → Bool
  | .UnaryOp .Not _ _ => false
  | .BoolOp .. => false
  | .IfExp .. => false
  | .Compare .. => false
  | _ => true
theorem isTrue_of_plain {e : Expr} (h : plainT e = true) (env : Env) (whole : Sem Value) : isTrue e env whole = (do let v ← whole; standAt e.pos; holding [v] (truthy v)) := by
  cases e with
  | UnaryOp o x p => cases o <;> first | rfl | cases h
  | _ => first | rfl | cases h
section
variable {M : Model} {A : Around} {E : Value → Shared → Prop} {s : Shared} {env : Env}
theorem isTrue_cmp {l : Expr} {op : CmpOp} {r : Expr} {pos : Pos} {whole : Sem Value} {Q : Bool → Shared → Prop} (h : wpAny M A (eval (.Compare l [op] [r] pos) env) (fun c s₃ => wpAny M A (truthy c) Q E s₃) E s) :
    wpAny M A (isTrue (.Compare l [op] [r] pos) env whole) Q E s := by
  have e : isTrue (.Compare l [op] [r] pos) env whole = eval (.Compare l [op] [r] pos) env >>= fun c => holding [c] (truthy c) := by
    rw [isTrue_Compare1, eval_Compare1]
    simp only [bind_assoc]
  rw [e]
  exact wpAny_bind (wpAny_mono h (fun c s₃ h₃ => wpAny_holding h₃) fun _ _ x => x)
end
section
variable {W : Wd} {d : Nat} {f : FC} {A : Around} {Φ : Nat → List V → Sta → Option (V × Sta)}

theorem st_x {e : Expr} {a : X} (h1 : SX W d f A Φ e a) (hp : plainT e = true) : ST W d f A Φ e (.x a) := fun s ρ σ g b σ' at_ h Q E whole hw P => by
  subst hw
  unfold evalT at h
  obtain ⟨⟨x, σ₁⟩, ea, h⟩ := bind_some h
  obtain ⟨z, eo, h⟩ := bind_some h
  cases h
  refine isTrue_plain ?_ (isTrue_of_plain hp _ _)
  refine h1 s ρ σ g x _ at_ ea _ E fun va s' g' at' ex gl ra => ?_
  exact truth_sound eo ra fun k => P _ g' (at'.toks k) ex gl
theorem st_cmp {l r : Expr} {op : CmpOp} {pos : Pos} {a : X} (h1 : SX W d f A Φ (.Compare l [op] [r] pos) a) : ST W d f A Φ (.Compare l [op] [r] pos) (.x a) := fun s ρ σ g b σ' at_ h Q E whole hw P => by
  unfold evalT at h
  obtain ⟨⟨x, σ₁⟩, ea, h⟩ := bind_some h
  obtain ⟨z, eo, h⟩ := bind_some h
  cases h
  refine isTrue_cmp ?_
  refine h1 s ρ σ g x _ at_ ea _ E fun va s' g' at' ex gl ra => ?_
  exact truth_sound eo ra fun k => P _ g' (at'.toks k) ex gl
theorem st_not {e : Expr} {t : T} {pos : Pos} (h1 : ST W d f A Φ e t) : ST W d f A Φ (.UnaryOp .Not e pos) (.not t) := fun s ρ σ g b σ' at_ h Q E whole hw P => by
  unfold evalT at h
  obtain ⟨⟨c, σ₁⟩, ea, h⟩ := bind_some h
  cases h
  refine isTrue_not ?_
  exact h1 s ρ σ g c _ at_ ea _ E _ rfl fun s' g' at' ex gl => P s' g' at' ex gl
theorem st_tt {pos : Pos} : ST W d f A Φ (.BoolOp .And [] pos) .tt := fun s ρ σ g b σ' at_ h Q E whole hw P => by
  cases h
  exact isTrue_and_nil (P s g at_ (.refl _ _) (.refl _))
theorem st_ff {pos : Pos} : ST W d f A Φ (.BoolOp .Or [] pos) .ff := fun s ρ σ g b σ' at_ h Q E whole hw P => by
  cases h
  exact isTrue_or_nil (P s g at_ (.refl _ _) (.refl _))
theorem st_and {e : Expr} {es : List Expr} {t u : T} {pos : Pos} (h1 : ST W d f A Φ e t) (h2 : ST W d f A Φ (.BoolOp .And es pos) u) : ST W d f A Φ (.BoolOp .And (e :: es) pos) (.and t u) := fun s ρ σ g b σ' at_ h Q E whole hw P => by
  unfold evalT at h
  obtain ⟨⟨c, σ₁⟩, ea, h⟩ := bind_some h
  refine isTrue_and ?_
  refine h1 s ρ σ g c _ at_ ea _ E _ rfl fun s' g' at' ex gl => ?_
  cases c with
  | false => cases h; exact P s' g' at' ex gl
  | true =>
    show wpAny _ _ (isTrue (.BoolOp .And es pos) f.env (eval (.BoolOp .And es pos) f.env)) _ _ _
    exact h2 s' ρ _ g' b σ' at' h _ E _ rfl fun s'' g'' at'' ex' gl' => P s'' g'' at'' (ex.trans gl' ex') (gl.trans gl')
theorem st_or {e : Expr} {es : List Expr} {t u : T} {pos : Pos} (h1 : ST W d f A Φ e t) (h2 : ST W d f A Φ (.BoolOp .Or es pos) u) : ST W d f A Φ (.BoolOp .Or (e :: es) pos) (.or t u) := fun s ρ σ g b σ' at_ h Q E whole hw P => by
  unfold evalT at h
  obtain ⟨⟨c, σ₁⟩, ea, h⟩ := bind_some h
  refine isTrue_or ?_
  refine h1 s ρ σ g c _ at_ ea _ E _ rfl fun s' g' at' ex gl => ?_
  cases c with
  | true => cases h; exact P s' g' at' ex gl
  | false =>
    show wpAny _ _ (isTrue (.BoolOp .Or es pos) f.env (eval (.BoolOp .Or es pos) f.env)) _ _ _
    exact h2 s' ρ _ g' b σ' at' h _ E _ rfl fun s'' g'' at'' ex' gl' => P s'' g'' at'' (ex.trans gl' ex') (gl.trans gl')
end
end Mine
end

section
open PySem PySem.W PySem.Calls PyProof.Rows
set_option Elab.async false
set_option maxRecDepth 100000
set_option linter.unusedVariables false
namespace Mine

/-- what a walked statement leaves alone: as an expression does, but for its own frame -/
structure ExtS (L : Addr) (g : G) (h h' : Heap) : Prop where
  seq : ∀ b o, h.get? b = some o → keepD o.data = true → h'.get? b = some o
  dic : ∀ b o, h.get? b = some o → b ≠ L → (∀ x, g ≠ some (x, b)) → ∃ sl, h'.get? b = some { o with slots := sl }
theorem Ext.toS {L : Addr} {g : G} {h h' : Heap} (x : Ext g h h') : ExtS L g h h' := ⟨x.seq, fun b o e _ => x.dic b o e⟩
theorem ExtS.refl (L : Addr) (g : G) (h : Heap) : ExtS L g h h := (Ext.refl g h).toS
theorem ExtS.trans {L : Addr} {g g' : G} {a b c : Heap} (x : ExtS L g a b) (l : G.le g g') (y : ExtS L g' b c) : ExtS L g' a c :=
  ⟨fun p o e k => y.seq p o (x.seq p o e k) k, fun p o e q n => let ⟨_, e1⟩ := x.dic p o e q (fun z hz => n z (l _ hz)); let ⟨sl, e2⟩ := y.dic p _ e1 q n; ⟨sl, e2⟩⟩

/-- the frames' dicts -/
def FC.fs' (f : FC) : List Addr := f.L :: f.fs
/-- an exception of the walked frame, made or come by a loop -/
def Raised (f : FC) (C : Addr) (e : Addr) (s₁ s' : Shared) : Prop := ∃ h', s' = { s₁ with heap := h' } ∧
  (Heap.MadeExcOf s₁.heap h' e (.ref C) [] ∨ ∃ a0, Heap.HeldW (hideAll s₁.heap f.fs') (f.env :: f.outer) e (.ref C) a0 f.L h' ∧ s₁.heap.UpToSlots h')

section
variable (W : Wd) (d : Nat) (f : FC) (A : Around) (Φ : Nat → List V → Sta → Option (V × Sta))
def PostS (s : Shared) (g : G) (ρ' : List V) (σ' : Sta) (Q : Flow → Shared → Prop) (E : Value → Shared → Prop) : Fl → Prop
  | .next => ∀ s' g', At W d f A s' ρ' σ' g' → ExtS f.L g' s.heap s'.heap → G.le g g' → Q .next s'
  | .brk => ∀ s' g', At W d f A s' ρ' σ' g' → ExtS f.L g' s.heap s'.heap → G.le g g' → Q .brk s'
  | .cont => ∀ s' g', At W d f A s' ρ' σ' g' → ExtS f.L g' s.heap s'.heap → G.le g g' → Q .cont s'
  | .ret v => ∀ s' g' val, At W d f A s' ρ' σ' g' → ExtS f.L g' s.heap s'.heap → G.le g g' → Rv W.K g' s'.heap v val → Q (.ret val) s'
  | .exc k => ∀ s₁ g' e s', At W d f A s₁ ρ' σ' g' → ExtS f.L g' s.heap s₁.heap → G.le g g' → Raised f (labAddr k) e s₁ s' → E (.ref e) s'
def SS1 (st : Stmt) (b : S) : Prop := ∀ (s : Shared) (ρ : List V) (σ : Sta) (g : G) (fl : Fl) (ρ' : List V) (σ' : Sta), At W d f A s ρ σ g → exec Φ b ρ σ = some (fl, ρ', σ') →
  ∀ (Q : Flow → Shared → Prop) (E : Value → Shared → Prop), PostS W d f A s g ρ' σ' Q E fl → wpAny (model W.p W.w) A (PySem.exec st f.env) Q E s
def SSL (body : List Stmt) (b : S) : Prop := ∀ (s : Shared) (ρ : List V) (σ : Sta) (g : G) (fl : Fl) (ρ' : List V) (σ' : Sta), At W d f A s ρ σ g → exec Φ b ρ σ = some (fl, ρ', σ') →
  ∀ (Q : Flow → Shared → Prop) (E : Value → Shared → Prop), PostS W d f A s g ρ' σ' Q E fl → wpAny (model W.p W.w) A (PySem.execs body f.env) Q E s
end
section
variable {W : Wd} {d : Nat} {f : FC} {A : Around} {Φ : Nat → List V → Sta → Option (V × Sta)}

theorem PostS.weaken {s s₁ : Shared} {g g₁ : G} {ρ' : List V} {σ' : Sta} {Q : Flow → Shared → Prop} {E : Value → Shared → Prop} {fl : Fl} (x : ExtS f.L g₁ s.heap s₁.heap) (l : G.le g g₁) (P : PostS W d f A s g ρ' σ' Q E fl) : PostS W d f A s₁ g₁ ρ' σ' Q E fl := by
  cases fl with
  | next => exact fun s' g' a e k => P s' g' a (x.trans k e) (l.trans k)
  | brk => exact fun s' g' a e k => P s' g' a (x.trans k e) (l.trans k)
  | cont => exact fun s' g' a e k => P s' g' a (x.trans k e) (l.trans k)
  | ret v => exact fun s' g' val a e k r => P s' g' val a (x.trans k e) (l.trans k) r
  | exc k => exact fun s₂ g' e s' a ee k r => P s₂ g' e s' a (x.trans k ee) (l.trans k) r

theorem ss_nil : SSL W d f A Φ [] .skip := fun s ρ σ g fl ρ' σ' at_ h Q E P => by
  cases h
  exact wpAny_execs_nil (P s g at_ (.refl _ _ _) (.refl _))
theorem ss_cons {st : Stmt} {rest : List Stmt} {a b : S} (h1 : SS1 W d f A Φ st a) (h2 : SSL W d f A Φ rest b) : SSL W d f A Φ (st :: rest) (.seq a b) := fun s ρ σ g fl ρ' σ' at_ h Q E P => by
  unfold exec at h
  obtain ⟨⟨fl₁, ρ₁, σ₁⟩, ea, h⟩ := bind_some h
  refine wpAny_execs_cons (h1 s ρ σ g fl₁ ρ₁ σ₁ at_ ea _ E ?_)
  cases fl₁ with
  | next => exact fun s₁ g₁ at₁ ex gl => h2 s₁ ρ₁ σ₁ g₁ fl ρ' σ' at₁ h Q E (P.weaken ex gl)
  | brk => cases h; exact P
  | cont => cases h; exact P
  | ret v => cases h; exact P
  | exc k => cases h; exact P

theorem ss_pass {pos : Pos} : SS1 W d f A Φ (.Pass pos) .skip := fun s ρ σ g fl ρ' σ' at_ h Q E P => by
  cases h
  exact wpAny_Pass (P s g at_ (.refl _ _ _) (.refl _))
theorem ss_brk {pos : Pos} : SS1 W d f A Φ (.Break pos) .brk := fun s ρ σ g fl ρ' σ' at_ h Q E P => by
  cases h
  exact wpAny_Break (P s g at_ (.refl _ _ _) (.refl _))
theorem ss_cont {pos : Pos} : SS1 W d f A Φ (.Continue pos) .cont := fun s ρ σ g fl ρ' σ' at_ h Q E P => by
  cases h
  exact wpAny_Continue (P s g at_ (.refl _ _ _) (.refl _))
theorem ss_ret {e : Expr} {a : X} {pos : Pos} (h1 : SX W d f A Φ e a) : SS1 W d f A Φ (.Return (some e) pos) (.ret a) := fun s ρ σ g fl ρ' σ' at_ h Q E P => by
  unfold exec at h
  obtain ⟨⟨x, σ₁⟩, ea, h⟩ := bind_some h
  cases h
  rw [exec_Return_some]
  refine wpAny_bind (wpAny_standAt (wpAny_bind (h1 s _ σ g x _ at_ ea _ E fun va s' g' at' ex gl ra => ?_)))
  exact wpAny_pure (P s' g' va at' ex.toS gl ra)
theorem ss_ret0 {pos : Pos} : SS1 W d f A Φ (.Return none pos) (.ret (.cst .none)) := fun s ρ σ g fl ρ' σ' at_ h Q E P => by
  unfold exec at h
  obtain ⟨⟨x, σ₁⟩, ea, h⟩ := bind_some h
  cases h
  unfold evalX at ea
  cases ea
  rw [exec_Return_none]
  exact wpAny_bind (wpAny_standAt (wpAny_pure (P s g .none at_ (.refl _ _ _) (.refl _) .none)))
def noComp : Expr → Bool
  | .ListComp .. => false | .SetComp .. => false | .DictComp .. => false | _ => true
theorem swaps_no {e : Expr} (h : noComp e = true) (t : Option Expr) (n : Nat) (env : Env) : swapsWith e t n env = pure false := by
  cases e <;> first | rfl | cases h
theorem ss_expr {e : Expr} {a : X} {pos : Pos} (h1 : SX W d f A Φ e a) (hc : noComp e = true) : SS1 W d f A Φ (.Expr e pos) (.expr a) := fun s ρ σ g fl ρ' σ' at_ h Q E P => by
  unfold exec at h
  obtain ⟨⟨x, σ₁⟩, ea, h⟩ := bind_some h
  cases h
  have hi : interactive f.env = false := by
    unfold interactive
    have : f.env.scope.kind = .function := at_.kind
    rw [this]; rfl
  refine wpAny_Expr_any ?_ hi (swaps_no hc _ _ _)
  exact h1 s _ σ g x _ at_ ea _ E fun va s' g' at' ex gl ra => P s' g' at' ex.toS gl
theorem ss_asrt {e : Expr} {t : T} {pos : Pos} {msg : Option Expr} (h1 : ST W d f A Φ e t) : SS1 W d f A Φ (.Assert e msg pos) (.asrt t) := fun s ρ σ g fl ρ' σ' at_ h Q E P => by
  unfold exec at h
  obtain ⟨⟨c, σ₁⟩, ea, h⟩ := bind_some h
  refine wpAny_Assert_holds (h1 s ρ σ g c _ at_ ea _ E _ rfl fun s' g' at' ex gl => ?_)
  cases c with
  | true => cases h; exact ⟨rfl, P s' g' at' ex.toS gl⟩
  | false => cases h
theorem ss_if {e : Expr} {t : T} {pos : Pos} {b1 b2 : List Stmt} {a b : S} (h1 : ST W d f A Φ e t) (h2 : SSL W d f A Φ b1 a) (h3 : SSL W d f A Φ b2 b) : SS1 W d f A Φ (.If e b1 b2 pos) (.ife t a b) := fun s ρ σ g fl ρ' σ' at_ h Q E P => by
  unfold exec at h
  obtain ⟨⟨c, σ₁⟩, ea, h⟩ := bind_some h
  refine wpAny_If (h1 s ρ σ g c _ at_ ea _ E _ rfl fun s' g' at' ex gl => ?_)
  cases c with
  | true => exact h2 s' ρ σ₁ g' fl ρ' σ' at' h Q E (P.weaken ex.toS gl)
  | false => exact h3 s' ρ σ₁ g' fl ρ' σ' at' h Q E (P.weaken ex.toS gl)
end
end Mine
end

section
open PySem PySem.W PySem.Calls PyProof.Rows
set_option Elab.async false
set_option maxRecDepth 100000
set_option linter.unusedVariables false
namespace Mine
section
variable {W : Wd} {d : Nat} {f : FC} {A : Around} {Φ : Nat → List V → Sta → Option (V × Sta)}

theorem setL_eq {ρ ρ' : List V} {i : Nat} {v : V} (h : setL ρ i v = some ρ') : i < ρ.length ∧ ρ' = ρ.set i v := by
  unfold setL at h
  split at h
  · rename_i hl; cases h; exact ⟨hl, rfl⟩
  · cases h

theorem dict_of_ns {h : Heap} {L : Addr} {m : Str → Option Value} (n : h.Ns L m) {o : Obj} (ho : h.get? L = some o) : keepD o.data = false := by
  obtain ⟨oL, es, ep, hL, hd, _⟩ := n
  rw [hL] at ho
  cases ho
  rw [hd]; rfl

/-- a local is stored -/
theorem store_sound {s : Shared} {ρ ρ' : List V} {σ : Sta} {g : G} (at_ : At W d f A s ρ σ g) {i : Nat} {x : Str} {v : V} {val : Value} (hi : f.nm[i]? = some x) (hnd : f.nm.Nodup) (hk : f.scope.names.lookup x = some .local)
    (hs : setL ρ i v = some ρ') (r : Rv W.K g s.heap v val) {Q : Unit → Shared → Prop} {E : Value → Shared → Prop}
    (P : ∀ s', At W d f A s' ρ' σ g → ExtS f.L g s.heap s'.heap → Q () s') : wpAny (model W.p W.w) A (storeName f.env x val) Q E s := by
  obtain ⟨hlt, rfl⟩ := setL_eq hs
  obtain ⟨m, F, l⟩ := at_.fr
  refine wpAny_storeName_local (m := m) hk F.ns (fun h' hn hb => ?_) (by show (f.scope.kind == .class || (f.scope.kind == .module && f.L != mainGlobals)) = false; rw [at_.kind]; rfl)
  have ne : ∀ b o, s.heap.get? b = some o → b ≠ f.L → h'.get? b = some o := fun b o e q => (hb.2 b q).trans e
  have kp : ∀ b o, s.heap.get? b = some o → keepD o.data = true → h'.get? b = some o := fun b o e k => ne b o e fun q => by
    rw [q] at e
    rw [dict_of_ns F.ns e] at k; cases k
  refine P _ ?_ ⟨kp, fun b o e q _ => ⟨o.slots, ne b o e q⟩⟩
  refine { fr := ⟨_, F.set hn hb, ?_⟩, len := by rw [List.length_set]; exact at_.len, fo := ?_, sr := ⟨at_.sr.non, ?_⟩, off := at_.off, gens := at_.gens, os := at_.os, kind := at_.kind, handled := at_.handled, frames := at_.frames, depth := at_.depth, units := at_.units }
  · intro j y u hj hu hne
    by_cases hji : j = i
    · subst hji
      rw [hi] at hj
      cases hj
      rw [List.getElem?_set_self hlt] at hu
      cases hu
      exact ⟨val, by simp, r.keep kp (.refl g)⟩
    · rw [List.getElem?_set_ne (Ne.symm hji)] at hu
      obtain ⟨vy, q1, q2⟩ := l j y u hj hu hne
      have hxy : y ≠ x := fun q => by
        subst q
        exact hji ((List.getElem?_inj (List.getElem?_eq_some_iff.mp hj).1 hnd).mp (hj.trans hi.symm))
      exact ⟨vy, by simp [hxy, q1], q2.keep kp (.refl g)⟩
  · intro e he
    obtain ⟨q1, Lf, o, q2, q3, q4, q5, q6, q7⟩ := at_.fo e he
    exact ⟨q1, Lf, o, q2, q3, q4, q5, ne _ _ q6 q4, q7⟩
  · intro st xa dx e1 e2
    obtain ⟨q1, q2, q3, q4, es, n, q5, q6⟩ := at_.sr.some st xa dx e1 e2
    obtain ⟨o1, o2⟩ := at_.off xa dx e2
    exact ⟨q1, q2, q3, ne _ _ q4 o1, es, n, ne _ _ q5 o2, q6⟩

theorem ss_asg {e : Expr} {a : X} {i : Nat} {x : Str} {p pos : Pos} (h1 : SX W d f A Φ e a) (hc : noComp e = true) (hi : f.nm[i]? = some x) (hnd : f.nm.Nodup) (hk : f.scope.names.lookup x = some .local) : SS1 W d f A Φ (.Assign [.Name x p] e pos) (.asg i a) := fun s ρ σ g fl ρ' σ' at_ h Q E P => by
  unfold exec at h
  obtain ⟨⟨u, σ₁⟩, ea, h⟩ := bind_some h
  obtain ⟨ρ₁, es, h⟩ := bind_some h
  cases h
  refine wpAny_Assign_Name (h1 s ρ σ g u _ at_ ea _ E fun va s' g' at' ex gl ra => ?_) (swaps_no hc _ _ _)
  exact store_sound at' hi hnd hk es ra fun s'' at'' ex' => P s'' g' at'' (ex.toS.trans (.refl _) ex') gl

theorem iop_sound {p : Program} {w : World} {E : Value → Shared → Prop} {s : Shared} {Q : Value → Shared → Prop} {K : Frag} {g : G} {h : Heap} {o : Bop} {a b v : V} {va vb : Value} (ho : o = .add ∨ o = .sub) (hv : binV o a b = some v) (ra : Rv K g h a va) (rb : Rv K g h b vb)
    (P : ∀ val k, (∀ g h, Rv K g h v val) → flat v = true → Q val { s with toks := k }) : wpAny (model p w) A (inplaceOp o.py va vb) Q E s := by
  rcases ho with rfl | rfl <;> cases ra <;> (try cases hv) <;> cases rb <;> (try cases hv)
  · exact iadd_int (P _ _ (fun _ _ => .int _ _) rfl)
  · rename_i x t hx y u hy
    simp only [binV] at hv
    split at hv
    · rename_i hs
      cases hv
      refine iadd_str (fun t' k => ?_) (by rw [strOf_len, strOf_len]; exact sizeMax_le hs)
      rw [strOf_append]
      exact P _ k (fun _ _ => .str _ _ (by rw [List.length_append]; exact hs)) rfl
    · cases hv
  · exact isub_int (P _ _ (fun _ _ => .int _ _) rfl)

theorem ss_aug {e : Expr} {a : X} {i : Nat} {o : Bop} {x : Str} {p pos : Pos} (h1 : SX W d f A Φ e a) (ho : o = .add ∨ o = .sub) (hi : f.nm[i]? = some x) (hnd : f.nm.Nodup) (hk : f.scope.names.lookup x = some .local) : SS1 W d f A Φ (.AugAssign (.Name x p) o.py e pos) (.aug i o a) := fun s ρ σ g fl ρ' σ' at_ h Q E P => by
  unfold exec at h
  obtain ⟨u, eu, h⟩ := bind_some h
  obtain ⟨⟨y, σ₁⟩, ea, h⟩ := bind_some h
  obtain ⟨z, eo, h⟩ := bind_some h
  obtain ⟨ρ₁, es, h⟩ := bind_some h
  cases h
  obtain ⟨m, F, l⟩ := at_.fr
  have hu : ρ[i]? = some u ∧ u ≠ .undef := by
    unfold locV at eu
    split at eu
    · cases eu
    · rename_i h0
      exact ⟨eu, fun q => h0 (by rw [eu, q])⟩
  obtain ⟨vx, q1, q2⟩ := l i x u hi hu.1 hu.2
  refine wpAny_AugAssign_Name (ldn F q1 ?_ at_.kind hk)
  refine h1 s ρ σ g y _ at_ ea _ E fun va s' g' at' ex gl ra => ?_
  refine iop_sound ho eo (q2.ext ex gl) ra fun val k r _ => ?_
  exact store_sound (at'.toks k) hi hnd hk es (r _ _) fun s'' at'' ex' => P s'' g' at'' (ex.toS.trans (.refl _) ex') gl
end
end Mine
end

section
open PySem PySem.W PySem.Calls PyProof.Rows
set_option Elab.async false
set_option maxRecDepth 100000
set_option linter.unusedVariables false
namespace Mine
section
variable {W : Wd} {d : Nat} {f : FC} {A : Around} {Φ : Nat → List V → Sta → Option (V × Sta)}

def noTup : Expr → Bool
  | .Tuple .. => false
  | _ => true
theorem stores_no {e : Expr} (h : noTup e = true) (ts : List Expr) (k : Nat) (p : Pos) (env : Env) : swappedStores [.Tuple ts k p] e env = pure none := by
  cases e <;> first | rfl | cases h
theorem sole_no {e : Expr} (h : noComp e = true) (t : Expr) (n : Nat) (env : Env) : swapsWithSole [t] e n env = pure false := by
  show swapsWith e (some t) n env = pure false
  exact swaps_no h _ _ _
theorem ss_asg2 {e : Expr} {a : X} {i j : Nat} {x y : Str} {p1 p2 tp pos : Pos} {k : Nat} (h1 : SX W d f A Φ e a) (hc : noComp e = true) (ht : noTup e = true) (hi : f.nm[i]? = some x) (hj : f.nm[j]? = some y) (hnd : f.nm.Nodup)
    (hk : f.scope.names.lookup x = some .local) (hk2 : f.scope.names.lookup y = some .local) : SS1 W d f A Φ (.Assign [.Tuple [.Name x p1, .Name y p2] k tp] e pos) (.asg2 i j a) := fun s ρ σ g fl ρ' σ' at_ h Q E P => by
  unfold exec at h
  obtain ⟨⟨u, σ₁⟩, ea, h⟩ := bind_some h
  refine Assign_Tuple (h1 s ρ σ g u σ₁ at_ ea _ E fun va s' g' at' ex gl ra => ?_) (sole_no hc _ _ _) (stores_no ht _ _ _ _)
  cases ra with
  | tup hl hn hz hi' =>
    rename_i vs items ad
    match vs, h, hn, hi' with
    | [u1, u2], h, hn, hi' =>
      obtain ⟨ρ₁, es1, h⟩ := bind_some h
      obtain ⟨ρ₂, es2, h⟩ := bind_some h
      cases h
      match items, hn, hl, hi' with
      | [w1, w2], hn, hl, hi' =>
        refine assign_Tuple_tuple at'.handled hl rfl (by rfl) fun h' he => ?_
        have kk : ∀ b o, s'.heap.get? b = some o → h'.get? b = some o := fun b o e => he b o (Nat.ne_of_lt (Heap.lt_size e)) e
        have r1 := (hi' 0 u1 w1 rfl rfl).ext (ext_grow none kk) (.refl g')
        have r2 := (hi' 1 u2 w2 rfl rfl).ext (ext_grow none kk) (.refl g')
        have at'' : At W d f A { s' with heap := h' } ρ σ' g' := at'.grow (n := s'.toks) kk
        refine wpAny_bind (wpAny_holding (assign_Name ?_))
        refine store_sound at'' hi hnd hk es1 r1 fun s2 at2 ex2 => ?_
        refine wpAny_bind (wpAny_holding (assign_Name ?_))
        refine store_sound at2 hj hnd hk2 es2 (r2.keep ex2.seq (.refl g')) fun s3 at3 ex3 => ?_
        exact wpAny_pure (P s3 g' at3 (((ex.trans (.refl _) (ext_grow _ kk)).toS.trans (.refl _) ex2).trans (.refl _) ex3) gl)
  | _ => cases h
end
end Mine
end

section
open PySem PySem.W PySem.Calls PyProof.Rows
set_option Elab.async false
set_option maxRecDepth 100000
set_option linter.unusedVariables false
namespace Mine

theorem isStr_str (x y : Str) (t : Tok) : Value.isStr (.str x t) y = (x == y) := rfl
theorem isStr_two {k : Value} {x y : Str} (h1 : k.isStr x = true) (h2 : k.isStr y = true) : x = y := by
  cases k <;> first | (cases h1; done) | skip
  have a := eq_of_beq h1
  have b := eq_of_beq h2
  exact a.symm.trans b

theorem getL_cons (x : Str) (e : DictEntry) (r : List DictEntry) : getL x (e :: r) = if e.key.isStr x then some (some e.val) else match r.find? (·.key.isStr x) with
  | some e => some (some e.val)
  | none => if e.refKey || r.any (·.refKey) then none else some none := by
  unfold getL
  rw [List.find?_cons]
  cases h : e.key.isStr x with
  | true => rfl
  | false => rfl

theorem putL_self (x : Str) (hs : Int) (t : Tok) (v : Value) : ∀ es : List DictEntry, (getL x es).isSome = true → getL x (putL x hs (.str x t) v es) = some (some v)
  | [], _ => by
    show getL x [⟨hs, .str x t, v⟩] = _
    rw [getL_cons, if_pos (by rw [isStr_str]; exact beq_self_eq_true x)]
  | e :: r, h => by
    unfold putL
    cases q : e.key.isStr x with
    | true =>
      simp only [if_true]
      rw [getL_cons, if_pos q]
    | false =>
      simp only [Bool.false_eq_true, if_false]
      rw [getL_cons, if_neg (by rw [q]; decide)]
      rw [getL_cons, if_neg (by rw [q]; decide)] at h
      have h' : (getL x r).isSome = true := by
        unfold getL
        cases z : r.find? (·.key.isStr x) with
        | some e' => rfl
        | none =>
          rw [z] at h
          dsimp only at h ⊢
          cases w : r.any (·.refKey) with
          | false => rfl
          | true => rw [w, Bool.or_true] at h; exact h
      have ih := putL_self x hs t v r h'
      unfold getL at ih
      cases z : (putL x hs (.str x t) v r).find? (·.key.isStr x) with
      | some e' => rw [z] at ih; exact ih
      | none =>
        rw [z] at ih
        dsimp only at ih
        split at ih <;> cases ih
theorem putL_refs (x : Str) (hs : Int) (t : Tok) (v : Value) : ∀ es : List DictEntry, (putL x hs (.str x t) v es).any (·.refKey) = es.any (·.refKey)
  | [] => rfl
  | e :: r => by
    unfold putL
    cases q : e.key.isStr x with
    | true => rfl
    | false =>
      simp only [Bool.false_eq_true, if_false, List.any_cons]
      rw [putL_refs x hs t v r]
theorem putL_find_ne {x y : Str} (hne : y ≠ x) (hs : Int) (t : Tok) (v : Value) : ∀ es : List DictEntry, (putL x hs (.str x t) v es).find? (·.key.isStr y) = es.find? (·.key.isStr y)
  | [] => by
    show List.find? _ [(⟨hs, .str x t, v⟩ : DictEntry)] = none
    rw [List.find?_cons]
    have : Value.isStr (.str x t) y = false := by rw [isStr_str]; exact beq_eq_false_iff_ne.mpr (Ne.symm hne)
    rw [this]; rfl
  | e :: r => by
    unfold putL
    cases q : e.key.isStr x with
    | true =>
      have : e.key.isStr y = false := by
        cases z : e.key.isStr y with
        | false => rfl
        | true => exact absurd (isStr_two z q) hne
      simp only [if_true, List.find?_cons, this]
    | false =>
      simp only [Bool.false_eq_true, if_false, List.find?_cons]
      rw [putL_find_ne hne hs t v r]
theorem putL_ne {x y : Str} (hne : y ≠ x) (hs : Int) (t : Tok) (v : Value) (es : List DictEntry) : getL y (putL x hs (.str x t) v es) = getL y es := by
  unfold getL
  rw [putL_find_ne hne, putL_refs]
theorem putL_len (x : Str) (hs : Int) (t : Tok) (v : Value) : ∀ es : List DictEntry, (putL x hs (.str x t) v es).length = es.length + if es.any (·.key.isStr x) then 0 else 1
  | [] => rfl
  | e :: r => by
    unfold putL
    cases q : e.key.isStr x with
    | true => simp [q]
    | false =>
      simp only [Bool.false_eq_true, if_false, List.length_cons, List.any_cons, q, Bool.false_or]
      rw [putL_len x hs t v r]; omega
theorem any_of_getL {x : Str} {es : List DictEntry} {o : Option Value} (h : getL x es = some o) : es.any (·.key.isStr x) = o.isSome := by
  unfold getL at h
  cases z : es.find? (·.key.isStr x) with
  | some e =>
    rw [z] at h; cases h
    have q := List.find?_some z
    exact List.any_eq_true.mpr ⟨e, List.mem_of_find?_eq_some z, q⟩
  | none =>
    rw [z] at h
    dsimp only at h
    split at h <;> cases h
    show _ = false
    rw [List.any_eq_false]
    intro e he hq
    exact List.find?_eq_none.mp z e he hq

theorem put_get_self (s : Stem) (v : V) (fl : Fld) : (s.put v fl).get fl = some v := by cases fl <;> rfl
theorem put_get_ne (s : Stem) (v : V) {fl k : Fld} (h : k ≠ fl) : (s.put v fl).get k = s.get k := by cases fl <;> cases k <;> first | rfl | exact absurd rfl h
theorem one_or (o : Option V) : one o + (if o.isSome then 0 else 1) = 1 := by cases o <;> rfl
theorem one_le (o : Option V) : one o ≤ 1 := by
  have := one_or o
  omega
theorem cnt_put (s : Stem) (v : V) (fl : Fld) : cnt (s.put v fl) = cnt s + if (s.get fl).isSome then 0 else 1 := by
  have h := one_or (s.get fl)
  have e : one (some v) = 1 := rfl
  cases fl <;> (simp only [cnt, Stem.put, Stem.get, e] at h ⊢; omega)

theorem flds_put {K : Frag} {es : List DictEntry} {st : Stem} (F : Flds K es st) (fl : Fld) (hs : Int) (t : Tok) {v : V} {val : Value} (hf : flat v = true) (r : ∀ g h, Rv K g h v val) : Flds K (putL fl.name hs (.str fl.name t) val es) (st.put v fl) where
  val := fun k u h => by
    by_cases q : k = fl
    · subst q
      rw [put_get_self] at h
      cases h
      refine ⟨hf, val, putL_self _ _ _ _ _ ?_, r⟩
      cases z : st.get k with
      | none => rw [F.non k z]; rfl
      | some u => obtain ⟨_, w, e, _⟩ := F.val k u z; rw [e]; rfl
    · rw [put_get_ne _ _ q] at h
      obtain ⟨a, w, e, b⟩ := F.val k u h
      exact ⟨a, w, by rw [putL_ne (fun z => q (Fld.name_inj z))]; exact e, b⟩
  non := fun k h => by
    by_cases q : k = fl
    · subst q; rw [put_get_self] at h; cases h
    · rw [put_get_ne _ _ q] at h
      rw [putL_ne (fun z => q (Fld.name_inj z))]; exact F.non k h
  other := fun x hx => by rw [putL_ne (hx fl)]; exact F.other x hx
  keys := by
    rw [putL_len, F.keys, cnt_put]
    cases z : st.get fl with
    | none => rw [any_of_getL (F.non fl z)]; rfl
    | some u => obtain ⟨_, w, e, _⟩ := F.val fl u z; rw [any_of_getL e]; rfl

section
variable {W : Wd} {d : Nat} {f : FC} {A : Around} {Φ : Nat → List V → Sta → Option (V × Sta)}

/-- object.__setattr__ writes the instance's own dict, and nothing else -/
theorem osa_at {prog : Program} {w : World} {A : Around} {s : Shared} {K : Frag} {C x dx : Addr} {R : Result → Shared → Prop} {es : List DictEntry} {n : Nat} {name : Str} {tk : Tok} {v : Value} (X : K.In s.heap) (hx : s.heap.get? x = some (instObj C dx)) (D : s.heap.get? dx = some (dictOf es n))
    (hp : plainOver K C = true) (ht : takerIn K C name = some none) (hh : hasDictIn K C = true) (hl : (getL name es).isSome = true) (hz : es.length ≤ 900)
    (h : R (.ok (.ret .none)) { s with heap := s.heap.update dx (Obj.putName name (PyData.keyHash w.params name) (.str name s.toks) v), toks := s.toks + 1 }) :
    codeAny (model prog w) A (.call (.builtin "object.__setattr__") ⟨[.ref x, .str name tk, v], []⟩) R s := by
  have I : InstAt s.heap x (instObj C dx) C (some (dictOf es n)) := ⟨hx, rfl, rfl, D⟩
  refine osa_open X I hp ht fun b => ?_
  obtain ⟨cd, hc, hd'⟩ := any_some hh
  have e' : Obj.putName name (PyData.keyHash w.params name) (.str name s.toks) v (dictOf es n) = dictOf (putL name (PyData.keyHash w.params name) (.str name s.toks) v es) (putN name es n) := putName_dict _ _ _ _ _ _
  have D' : (s.heap.update dx (Obj.putName name (PyData.keyHash w.params name) (.str name s.toks) v)).get? dx = some (dictOf (putL name (PyData.keyHash w.params name) (.str name s.toks) v es) (putN name es n)) := by
    rw [← e']
    exact Heap.get?_update_self _ D (by rw [e']; rfl)
  refine wpAny_bind (wpAny_pure (wpAny_bind (wpAny_bind (wpAny_loadPart hx (wpAny_bind ((looks_clsIn X hc).here ?_))))))
  rw [hd']
  refine wpAny_pure (a := some dx) (wpAny_bind (wpAny_pure (wpAny_bind ?_)))
  unfold nsSet
  refine wpAny_bind (wpAny_bind (wpAny_askSetting (wpAny_pure (wpAny_bind (wpAny_mkText (wpAny_bind (wpAny_loadPart D ?_)))))))
  have c : (!es.toArray.any (·.key.isStr name) && es.toArray.any (·.refKey)) = false := by
    rw [← Array.any_toList, ← Array.any_toList]
    unfold getL at hl
    split at hl
    · rename_i en he
      rw [List.any_eq_true.mpr ⟨en, List.mem_of_find?_eq_some he, List.find?_some he⟩]; rfl
    · split at hl
      · cases hl
      · rename_i z; rw [Bool.not_eq_true] at z
        show (_ && es.any _) = false
        rw [z, Bool.and_false]
  dsimp only
  rw [aRefKeyMayBeTheName_at, c]
  refine wpAny_updatePart D ?_
  refine wpAny_bind (wpAny_lookBehind D' (pastItsLine_dict (by rw [List.size_toArray, sizeLine_eq, putL_len]; split <;> omega)) ?_)
  exact wpAny_pure h

theorem set_sound (ok : Ok W) {s : Shared} {ρ : List V} {st : Stem} {g : G} {x dx : Addr} (at_ : At W d f A s ρ (some st) g) (hg : g = some (x, dx)) (fl : Fld) {v : V} {val : Value} (hf : flat v = true) (r : ∀ g h, Rv W.K g h v val) {Q : Unit → Shared → Prop} {E : Value → Shared → Prop}
    (P : ∀ s', At W d f A s' ρ (some (st.put v fl)) g → Ext g s.heap s'.heap → Q () s') : wpAny (model W.p W.w) A (setAttr (.ref x) fl.name val) Q E s := by
  obtain ⟨q1, q2, q3, q4, es, n, q5, q6⟩ := at_.sr.some st x dx rfl hg
  obtain ⟨m, F, l⟩ := at_.fr
  have X := ok.X.keeps F.keep
  obtain ⟨_, _, tk⟩ := ok.kf.fld fl
  refine set_plain X (inst_at q4 q5) ok.kf.setA ?_
  have hsome : (getL fl.name es).isSome = true := by
    cases z : st.get fl with
    | none => rw [q6.non fl z]; rfl
    | some u => obtain ⟨_, w, e, _⟩ := q6.val fl u z; rw [e]; rfl
  have hlen : es.length ≤ 900 := by
    rw [q6.keys]
    have a1 := one_le st.cur
    have a2 := one_le st.c
    have a3 := one_le st.l
    have a4 := one_le st.lb
    have a5 := one_le st.bra
    have a6 := one_le st.ket
    have a7 := one_le st.p1
    have a8 := one_le st.p2
    unfold cnt
    omega
  refine osa_at (s := { s with toks := s.toks + 1 }) X q4 q5 ok.kf.over tk ok.kf.hasD hsome hlen ?_
  obtain ⟨o1, o2⟩ := at_.off x dx hg
  have other : ∀ b, b ≠ dx → (s.heap.update dx (Obj.putName fl.name (PyData.keyHash W.w.params fl.name) (.str fl.name (s.toks + 1)) val)).get? b = s.heap.get? b := fun b hb => Heap.get?_update_ne _ _ _ _ hb
  have kp : ∀ b o, s.heap.get? b = some o → keepD o.data = true → (s.heap.update dx (Obj.putName fl.name (PyData.keyHash W.w.params fl.name) (.str fl.name (s.toks + 1)) val)).get? b = some o := fun b o e k => by
    rw [other b fun q => ?_]; exact e
    rw [q, q5] at e; cases e; cases k
  have e' : Obj.putName fl.name (PyData.keyHash W.w.params fl.name) (.str fl.name (s.toks + 1)) val (dictOf es n) = dictOf (putL fl.name (PyData.keyHash W.w.params fl.name) (.str fl.name (s.toks + 1)) val es) (putN fl.name es n) := putName_dict _ _ _ _ _ _
  have D' : (s.heap.update dx (Obj.putName fl.name (PyData.keyHash W.w.params fl.name) (.str fl.name (s.toks + 1)) val)).get? dx = some (dictOf (putL fl.name (PyData.keyHash W.w.params fl.name) (.str fl.name (s.toks + 1)) val es) (putN fl.name es n)) := by
    rw [← e']
    exact Heap.get?_update_self _ q5 (by rw [e']; rfl)
  refine P _ ?_ ⟨kp, fun b o e nq => ⟨o.slots, by rw [other b fun q => nq x (by rw [hg, q])]; exact e⟩⟩
  refine { fr := ⟨m, ⟨?_, fun b o e => ?_, F.above⟩, fun j y u a b c => let ⟨w, z1, z2⟩ := l j y u a b c; ⟨w, z1, z2.keep kp (.refl g)⟩⟩, len := at_.len, fo := ?_, sr := ⟨?_, ?_⟩, off := at_.off, gens := at_.gens, os := at_.os, kind := at_.kind, handled := at_.handled, frames := at_.frames, depth := at_.depth, units := at_.units }
  · obtain ⟨oL, es', ep, hL, rr⟩ := F.ns
    exact ⟨oL, es', ep, by rw [other _ (Ne.symm o2)]; exact hL, rr⟩
  · rw [other b fun q => ?_]
    · exact F.keep b o e
    · rw [q, q2] at e; cases e
  · intro e he
    obtain ⟨z1, Lf, o, z2, z3, z4, z5, z6, z7⟩ := at_.fo e he
    exact ⟨z1, Lf, o, z2, z3, z4, z5, by rw [other _ (Ne.symm (z5 x dx hg))]; exact z6, z7⟩
  · rw [hg]; exact ⟨fun e => (by cases e), fun e => (by cases e)⟩
  · intro st' xa da e1 e2
    cases e1
    rw [hg] at e2
    cases e2
    exact ⟨q1, q2, q3, by rw [other _ q3]; exact q4, _, _, D', flds_put q6 fl _ _ hf r⟩
end
end Mine
end

section
open PySem PySem.W PySem.Calls PyProof.Rows
set_option Elab.async false
set_option maxRecDepth 100000
set_option linter.unusedVariables false
namespace Mine
section
variable {W : Wd} {d : Nat} {f : FC} {A : Around} {Φ : Nat → List V → Sta → Option (V × Sta)}

theorem slf_sound {o : Str} {i : Nat} {p : Pos} (hk : f.scope.names.lookup o = some .local) (hd : (o == ("__debug__" : Str)) = false) (hi : f.nm[i]? = some o) {s : Shared} {ρ : List V} {σ : Sta} {g : G} (at_ : At W d f A s ρ σ g) (hl : locV ρ i = some .slf)
    {Q : Value → Shared → Prop} {E : Value → Shared → Prop} (P : ∀ x dx s', g = some (x, dx) → At W d f A s' ρ σ g → Ext g s.heap s'.heap → Q (.ref x) s') : wpAny (model W.p W.w) A (eval (.Name o p) f.env) Q E s := by
  obtain ⟨m, F, l⟩ := at_.fr
  have hu : ρ[i]? = some .slf := by
    unfold locV at hl
    split at hl
    · cases hl
    · exact hl
  obtain ⟨val, h1, h2⟩ := l i o .slf hi hu (by intro e; cases e)
  cases h2 with
  | slf hg => exact ld F h1 (P _ _ s hg at_ (.refl _ _)) at_.kind hk hd

theorem ss_setf (ok : Ok W) {e : Expr} {a : X} {i : Nat} {o : Str} {fl : Fld} {p tp pos : Pos} (h1 : SX W d f A Φ e a) (hc : noComp e = true) (hk : f.scope.names.lookup o = some .local) (hd : (o == ("__debug__" : Str)) = false) (hi : f.nm[i]? = some o) :
    SS1 W d f A Φ (.Assign [.Attribute (.Name o p) fl.name tp] e pos) (.setf i fl a) := fun s ρ σ g r ρ' σ' at_ h Q E P => by
  unfold exec at h
  obtain ⟨⟨u, σ₁⟩, ea, h⟩ := bind_some h
  dsimp only at h
  split at h
  · rename_i st hl
    split at h
    · rename_i hf
      cases h
      refine plainObj_wpAny_Assign_Attribute (h1 s _ σ g u _ at_ ea _ E fun va s' g' at' ex gl ra => ?_) (swaps_no hc _ _ _)
      refine slf_sound hk hd hi at' hl fun x dx s₂ hg at₂ ex₂ => ?_
      have rr : ∀ g h, Rv W.K g h u va := by
        cases ra <;> first | (cases hf; done) | skip
        · exact fun _ _ => .int _ _
        · rename_i hx; exact fun _ _ => .str _ _ hx
      exact set_sound ok at₂ hg fl hf rr fun s₃ at₃ ex₃ => P s₃ g' at₃ (((ex.trans (.refl _) ex₂).trans (.refl _) ex₃).toS) gl
    · cases h
  · cases h

theorem get_sound (ok : Ok W) {s : Shared} {ρ : List V} {st : Stem} {g : G} {x dx : Addr} (at_ : At W d f A s ρ (some st) g) (hg : g = some (x, dx)) (fl : Fld) {v : V} (hv : st.get fl = some v) {ex : Bool} {Q : Value → Shared → Prop} {E : Value → Shared → Prop}
    (P : ∀ val s', At W d f A s' ρ (some st) g → Ext g s.heap s'.heap → (∀ g h, Rv W.K g h v val) → Q val s') : wpAny (model W.p W.w) A (getAttr (.ref x) fl.name ex) Q E s := by
  obtain ⟨q1, q2, q3, q4, es, n, q5, q6⟩ := at_.sr.some st x dx rfl hg
  obtain ⟨fv, val, e1, e2⟩ := q6.val fl v hv
  obtain ⟨k1, ⟨attr, k2, k3⟩, _⟩ := ok.kf.fld fl
  obtain ⟨m, F, _⟩ := at_.fr
  exact get_own F ok.X (inst_at q4 q5) k1 ok.kf.hasD k2 k3 e1 (handed_flat fv (e2 g s.heap)) (P val _ (at_.toks _) (.refl _ _) e2)

theorem ss_augf (ok : Ok W) {e : Expr} {a : X} {i : Nat} {o : Str} {fl : Fld} {b : Bop} {p tp pos : Pos} (h1 : SX W d f A Φ e a) (hb : b = .add ∨ b = .sub) (hk : f.scope.names.lookup o = some .local) (hd : (o == ("__debug__" : Str)) = false) (hi : f.nm[i]? = some o) :
    SS1 W d f A Φ (.AugAssign (.Attribute (.Name o p) fl.name tp) b.py e pos) (.augf i fl b a) := fun s ρ σ g r ρ' σ' at_ h Q E P => by
  unfold exec at h
  split at h
  · rename_i st hl
    obtain ⟨u, eu, h⟩ := bind_some h
    obtain ⟨⟨y, σ₁⟩, ea, h⟩ := bind_some h
    obtain ⟨z, eo, h⟩ := bind_some h
    split at h
    · rename_i st₁
      cases h
      refine wpAny_AugAssign_AttributeAny ?_
      refine slf_sound hk hd hi at_ hl fun x dx s₂ hg at₂ ex₂ => ?_
      refine get_sound ok at₂ hg fl eu fun vo s₃ at₃ ex₃ ro => ?_
      refine h1 s₃ _ _ g y _ at₃ ea _ E fun va s₄ g₄ at₄ ex₄ gl₄ ra => ?_
      refine iop_sound hb eo (ro g₄ s₄.heap) ra fun val k rr hf => ?_
      exact set_sound ok (at₄.toks k) (gl₄ _ hg) fl hf rr fun s₅ at₅ ex₅ => P s₅ g₄ at₅ ((((ex₂.trans (.refl _) ex₃).trans gl₄ ex₄).trans (.refl _) ex₅).toS) gl₄
    · cases h
  · cases h
end
end Mine
end

section
open PySem PySem.W PySem.Calls PyProof.Rows
set_option Elab.async false
set_option maxRecDepth 100000
set_option linter.unusedVariables false
namespace Mine
section
variable {W : Wd} {d : Nat} {f : FC} {A : Around} {Φ : Nat → List V → Sta → Option (V × Sta)}

theorem fs_mem {f : FC} {b : Addr} (h : b ∈ f.fs') : b = f.L ∨ ∃ e ∈ f.outer, e.frame = some b := by
  rcases List.mem_cons.mp h with h | h
  · exact .inl h
  · obtain ⟨e, he, hf⟩ := List.mem_filterMap.mp h
    exact .inr ⟨e, he, hf⟩
theorem At.not_hb {s : Shared} {ρ : List V} {σ : Sta} {g : G} (a : At W d f A s ρ σ g) {b : Addr} {o : Obj} (hb : W.hb.get? b = some o) : b ∉ f.fs' := fun h => by
  obtain ⟨m, F, _⟩ := a.fr
  rcases fs_mem h with rfl | ⟨e, he, hf⟩
  · exact absurd (Heap.lt_size hb) (Nat.not_lt.mpr F.above)
  · obtain ⟨_, Lf, o', q2, q3, _⟩ := a.fo e he
    rw [hf] at q2
    cases q2
    rw [hb] at q3; cases q3
theorem At.not_keep {s : Shared} {ρ : List V} {σ : Sta} {g : G} (a : At W d f A s ρ σ g) {b : Addr} {o : Obj} (hb : s.heap.get? b = some o) (k : keepD o.data = true) : b ∉ f.fs' := fun h => by
  obtain ⟨m, F, _⟩ := a.fr
  rcases fs_mem h with rfl | ⟨e, he, hf⟩
  · rw [dict_of_ns F.ns hb] at k; cases k
  · obtain ⟨_, Lf, o', q2, q3, q4, q5, q6, es, n, q7⟩ := a.fo e he
    rw [hf] at q2
    cases q2
    rw [hb] at q6; cases q6
    rw [q7] at k; cases k
theorem At.not_d {s : Shared} {ρ : List V} {σ : Sta} {g : G} (a : At W d f A s ρ σ g) {x dx : Addr} (hg : g = some (x, dx)) : dx ∉ f.fs' := fun h => by
  rcases fs_mem h with q | ⟨e, he, hf⟩
  · exact (a.off x dx hg).2 q
  · obtain ⟨_, Lf, o', q2, q3, q4, q5, _⟩ := a.fo e he
    rw [hf] at q2
    cases q2
    exact q5 x _ hg rfl
theorem At.funFrames {s : Shared} {ρ : List V} {σ : Sta} {g : G} (a : At W d f A s ρ σ g) : s.heap.FunFrames (hideAll s.heap f.fs') (f.env :: f.outer) := by
  obtain ⟨m, F, _⟩ := a.fr
  obtain ⟨oL, es, ep, hL, hd, _⟩ := F.ns
  refine ⟨?_, ⟨f.L, oL, rfl, hideAll_none _ (.head _), hL, fun vs q => by rw [hd] at q; cases q⟩, ?_⟩
  · show f.scope.kind ≠ .module
    rw [a.kind]; intro q; cases q
  · have gen : ∀ l : List Env, (∀ e ∈ l, e ∈ f.outer) → s.heap.FunFrames (hideAll s.heap f.fs') l := by
      intro l
      induction l with
      | nil => exact fun _ => trivial
      | cons e r ih =>
        intro hl
        obtain ⟨q1, Lf, o, q2, q3, q4, q5, q6, es, n, q7⟩ := a.fo e (hl e (.head _))
        exact ⟨q1, ⟨Lf, o, q2, hideAll_none _ (.tail _ (List.mem_filterMap.mpr ⟨e, hl e (.head _), q2⟩)), q6, fun vs q => by rw [q7] at q; cases q⟩, ih fun e' he' => hl e' (.tail _ he')⟩
    exact gen _ fun e he => he

/-- the frame stands when only the frames' slots and the exception's records have been written -/
theorem At.slots {s : Shared} {ρ : List V} {σ : Sta} {g : G} (a : At W d f A s ρ σ g) {h' : Heap} {n : Nat} (st : (hideAll s.heap f.fs').StaysIn h') (up : s.heap.UpToSlots h') : At W d f A { s with heap := h', toks := n } ρ σ g ∧ Ext g s.heap h' := by
  have kp : ∀ b o, s.heap.get? b = some o → keepD o.data = true → h'.get? b = some o := fun b o e k => st b o (hideAll_get _ e (a.not_keep e k))
  have ex : Ext g s.heap h' := by
    refine ⟨kp, fun b o e _ => ?_⟩
    by_cases k : keepD o.data = true
    · exact ⟨o.slots, kp b o e k⟩
    · exact up b o e fun vs q => by rw [q] at k; exact k rfl
  obtain ⟨m, F, l⟩ := a.fr
  refine ⟨{ fr := ⟨m, ⟨up.ns F.ns, fun b o e => st b o (hideAll_get _ (F.keep b o e) (a.not_hb e)), F.above⟩, fun j y u x1 x2 x3 => let ⟨w, z1, z2⟩ := l j y u x1 x2 x3; ⟨w, z1, z2.keep kp (.refl g)⟩⟩, len := a.len, fo := ?_, sr := ⟨a.sr.non, ?_⟩, off := a.off, gens := a.gens, os := a.os, kind := a.kind, handled := a.handled, frames := a.frames, depth := a.depth, units := a.units }, ex⟩
  · intro e he
    obtain ⟨q1, Lf, o, q2, q3, q4, q5, q6, es, k, q7⟩ := a.fo e he
    obtain ⟨sl, hs⟩ := up Lf o q6 fun vs q => by rw [q7] at q; cases q
    exact ⟨q1, Lf, _, q2, q3, q4, q5, hs, es, k, q7⟩
  · intro st' x dx e1 e2
    obtain ⟨q1, q2, q3, q4, es, k, q5, q6⟩ := a.sr.some st' x dx e1 e2
    exact ⟨q1, q2, q3, kp _ _ q4 rfl, es, k, st _ _ (hideAll_get _ q5 (a.not_d e2)), q6⟩

/-- the exception bears the frame's record -/
def Held (f : FC) (C : Addr) (e : Addr) (s₁ s' : Shared) : Prop := ∃ h' a0, s' = { s₁ with heap := h' } ∧ Heap.HeldW (hideAll s₁.heap f.fs') (f.env :: f.outer) e (.ref C) a0 f.L h' ∧ s₁.heap.UpToSlots h'
theorem Held.raised {C e : Addr} {s₁ s' : Shared} (h : Held f C e s₁ s') : Raised f C e s₁ s' := let ⟨h', a0, x, y, z⟩ := h; ⟨h', x, .inr ⟨a0, y, z⟩⟩

theorem note_sound {C e : Addr} {s₁ s' : Shared} {ρ : List V} {σ : Sta} {g : G} (a : At W d f A s₁ ρ σ g) (R : Raised f C e s₁ s') {M : Model} {A' : Around} (hA : A'.frames = A.frames) {Q : Unit → Shared → Prop} {E : Value → Shared → Prop}
    (P : ∀ s'', Held f C e s₁ s'' → Q () s'') : wpAny M A' (noteFrame (.ref e) f.env) Q E s' := by
  obtain ⟨h', rfl, R⟩ := R
  rcases R with hx | ⟨a0, hh, up⟩
  · obtain ⟨t, he, htn, ht⟩ := hx.there
    have hen : (hideAll s₁.heap f.fs').get? e = none := by
      cases q : (hideAll s₁.heap f.fs').get? e with
      | none => rfl
      | some o => have := of_hideAll _ q; rw [hx.new] at this; cases this
    have hl : h'.FunFrames (hideAll s₁.heap f.fs') (f.env :: f.outer) := a.funFrames.of_keeps fun b o hb _ => ⟨o, hx.keeps b o hb, rfl⟩
    have hkb : (hideAll s₁.heap f.fs').StaysIn h' := fun b o hb => hx.keeps b o (of_hideAll _ hb)
    unfold noteFrame
    simp only [show f.env.frame = some f.L from rfl]
    refine wpAny_bind (wpAny_field he rfl (x := .none) rfl ?_)
    rw [if_neg (show ¬ ((Value.none != Value.none) = true) from by decide)]
    refine wpAny_entryW (s := { s₁ with heap := h' }) (hA.trans a.frames) hl rfl he hkb hen rfl (show 1 < 6 from by decide) rfl fun h'' hN => ?_
    obtain ⟨k1, k2, k3, k4⟩ := hN
    exact P _ ⟨h'', _, rfl, ⟨k1, hen, k2, k3⟩, (Heap.UpToSlots.of_keeps hx.keeps).trans k4⟩
  · exact wpAny_noteFrame_againW rfl hh.2.2.2 (P _ ⟨h', a0, rfl, hh, up⟩)

theorem ss_try (ok : OkF W) {body : List Stmt} {b : S} {k : Nat} {x : Str} {np hpos pp pos : Pos} (h1 : SSL W d f A Φ body b) (hx : x = labName k) (hn : f.scope.names.lookup x = some .globalImplicit) (hd : (x == ("__debug__" : Str)) = false) :
    SS1 W d f A Φ (.Try body [.ExceptHandler (some (.Name x np)) none [.Pass pp] hpos] [] [] pos) (.tryx k b) := fun s ρ σ g fl ρ' σ' at_ h Q E P => by
  unfold exec at h
  obtain ⟨⟨fl₁, ρ₁, σ₁⟩, ea, h2⟩ := bind_some h
  clear h
  refine wpAny_Try_except (h1 s ρ σ g fl₁ ρ₁ σ₁ at_ ea _ _ ?_)
  cases fl₁ with
  | next => cases h2; exact fun s' g' a e l => wpAny_execs_nil (P s' g' a e l)
  | brk => cases h2; exact P
  | cont => cases h2; exact P
  | ret v => cases h2; exact P
  | exc j =>
    dsimp only at h2
    split at h2
    · rename_i hjk
      subst hjk
      cases h2
      intro s₁ g' e s' a ex gl R
      refine note_sound a R rfl fun s₂ hH => ?_
      obtain ⟨h₂, a0, rfl, hh, up⟩ := hH
      refine wpAny_landsW (s := { s₁ with heap := h₂ }) hh fun h₃ hf₃ up₃ => ?_
      obtain ⟨at₃, ex₃⟩ := a.slots (n := s₁.toks) hf₃.1 (up.trans up₃)
      obtain ⟨ob, hob, hobc⟩ := hf₃.there
      obtain ⟨m₃, F₃, _⟩ := at₃.fr
      obtain ⟨ln, lx⟩ := ok.lab j
      have O := own_of_in ok.ok.X (topRead_of ok.ok.T) ln lx
      refine wpAny_handleBy_cons (codeAny_handlers_test (name_K F₃ ok.ok.X (topRead_of ok.ok.T) (by rw [hx]; exact ln) ?_ at_.kind hn hd)) (by intro q; cases q)
      obtain ⟨bm, N, nm, qn, bs, hdct, sn, sub, ab, col, dd, k0, k1, k2, k3, k5, mN, hC, hN, hni, TL⟩ := (O.keeps F₃.keep).obj
      refine wpAny_excMatches_sub_self hC hob hobc (TL.hasType (by decide)) (codeAny_handlers_suite ?_)
      refine lands_againW hf₃ fun h₄ hf₄ up₄ => ?_
      obtain ⟨at₄, ex₄⟩ := a.slots (n := s₁.toks) hf₄.1 ((up.trans up₃).trans up₄)
      refine wpAny_execs_cons (wpAny_Pass (wpAny_execs_nil ?_))
      exact P _ g' at₄ (ex.trans (.refl _) ex₄.toS) gl
    · cases h2

theorem ss_raise (ok : OkF W) {k : Nat} {x : Str} {np cpos pos : Pos} (hx : x = labName k) (hn : f.scope.names.lookup x = some .globalImplicit) (hd : (x == ("__debug__" : Str)) = false) : SS1 W d f A Φ (.Raise (some (.Call (.Name x np) [] [] cpos)) none pos) (.raise k) := fun s ρ σ g fl ρ' σ' at_ h Q E P => by
  cases h
  obtain ⟨m, F, _⟩ := at_.fr
  obtain ⟨ln, lx⟩ := ok.lab k
  have O := own_of_in ok.ok.X (topRead_of ok.ok.T) ln lx
  rw [← hx] at O
  exact Raise_own0 F ok.ok.T.g O PySem.F.excBase_Exception at_.handled (fun h' e hm => P s g e _ at_ (.refl _ _ _) (.refl _) ⟨h', rfl, .inl hm⟩) at_.kind hn hd
end
end Mine
end

section
open PySem PySem.W PySem.Calls PyProof.Rows
set_option Elab.async false
set_option maxRecDepth 100000
set_option linter.unusedVariables false
namespace Mine
section
variable {W : Wd} {d : Nat} {f : FC} {A : Around} {Φ : Nat → List V → Sta → Option (V × Sta)}

/-- the loop's own record was written, and nothing else -/
theorem At.iter {s : Shared} {ρ : List V} {σ : Sta} {g : G} (a : At W d f A s ρ σ g) {I : Addr} {oI : Obj} {vs : Array Value} (hI : s.heap.get? I = some oI) (hd : oI.data = .fields vs) (hb : W.hb.get? I = none) {h' : Heap} {n : Nat}
    (k : ∀ b o, b ≠ I → s.heap.get? b = some o → h'.get? b = some o) : At W d f A { s with heap := h', toks := n } ρ σ g := by
  have ne : ∀ b o, s.heap.get? b = some o → (∀ vs, o.data ≠ .fields vs) → h'.get? b = some o := fun b o e q => k b o (fun z => by rw [z, hI] at e; cases e; exact q _ hd) e
  obtain ⟨m, F, l⟩ := a.fr
  refine { fr := ⟨m, ⟨?_, fun b o e => k b o (fun z => by rw [z, hb] at e; cases e) (F.keep b o e), F.above⟩, fun j y u x1 x2 x3 => let ⟨w, z1, z2⟩ := l j y u x1 x2 x3; ⟨w, z1, z2.keepS (fun b o xs n e q => ne b o e (fun vs z => by rw [q] at z; cases z)) (.refl g)⟩⟩, len := a.len, fo := ?_, sr := ⟨a.sr.non, ?_⟩, off := a.off, gens := a.gens, os := a.os, kind := a.kind, handled := a.handled, frames := a.frames, depth := a.depth, units := a.units }
  · obtain ⟨oL, es, ep, hL, q, rr⟩ := F.ns
    exact ⟨oL, es, ep, ne _ _ hL (fun vs z => by rw [q] at z; cases z), q, rr⟩
  · intro e he
    obtain ⟨z1, Lf, o, z2, z3, z4, z5, z6, es, n, z7⟩ := a.fo e he
    exact ⟨z1, Lf, o, z2, z3, z4, z5, ne _ _ z6 (fun vs z => by rw [z7] at z; cases z), es, n, z7⟩
  · intro st x dx e1 e2
    obtain ⟨q1, q2, q3, q4, es, n, q5, q6⟩ := a.sr.some st x dx e1 e2
    exact ⟨q1, q2, q3, ne _ _ q4 (fun vs z => by cases z), es, n, ne _ _ q5 (fun vs z => by cases z), q6⟩

/-- an iterator that hands the values on, one behind the other -/
inductive Iter (K : Frag) (g : G) (h : Heap) (I : Addr) : List V → Prop where
  | list {l : Addr} {items : Array Value} {i : Nat} {vs : List V} (hit : h.IsListIter I l i) (hl : h.IsList l items) (hr : RvL K g h vs (items.toList.drop i)) : Iter K g h I vs
  | range {a step : Int} {n : Nat} (hit : IsRangeIter h I a n step) : Iter K g h I ((List.range n).map fun (k : Nat) => .int (a + (k : Int) * step))
  | ascii {x : Tx} {t : Tok} {i : Nat} (hit : h.IsStrIter I "str_ascii_iterator" (strOf x) t i) : Iter K g h I ((x.drop i).map fun c => .str [c])
  | wide {x : Tx} {t : Tok} {i : Nat} (hit : h.IsStrIter I "str_iterator" (strOf x) t i) : Iter K g h I ((x.drop i).map fun c => .str [c])
theorem RvL.keepS {K : Frag} {g g' : G} {h h' : Heap} (x : ∀ b o xs n, h.get? b = some o → o.data = .seq xs n → h'.get? b = some o) (hg : G.le g g') {vs : List V} {vals : List Value} (r : RvL K g h vs vals) : RvL K g' h' vs vals := by
  induction r with
  | nil => exact .nil
  | cons a b ih => exact .cons (a.keepS x hg) ih
theorem Iter.fields {K : Frag} {g : G} {h : Heap} {I : Addr} {vs : List V} (x : Iter K g h I vs) : ∃ o ws, h.get? I = some o ∧ o.data = .fields ws := by
  cases x with
  | list hit hl hr => obtain ⟨o, ho, hc, hd⟩ := hit; exact ⟨o, _, ho, hd⟩
  | range hit => exact ⟨_, _, hit, rfl⟩
  | ascii hit => obtain ⟨o, ho, hc, hd⟩ := hit; exact ⟨o, _, ho, hd⟩
  | wide hit => obtain ⟨o, ho, hc, hd⟩ := hit; exact ⟨o, _, ho, hd⟩
theorem Iter.keep {K : Frag} {g g' : G} {h h' : Heap} {I : Addr} {vs : List V} (k : ∀ b o, h.get? b = some o → keepD o.data = true → h'.get? b = some o) (gl : G.le g g') (x : Iter K g h I vs) : Iter K g' h' I vs := by
  cases x with
  | list hit hl hr =>
    obtain ⟨o, ho, hc, hd⟩ := hit
    exact .list ⟨o, k _ _ ho (by rw [hd]; rfl), hc, hd⟩ (isList_keepS (fun b o xs n e q => k b o e (by rw [q]; rfl)) hl) (hr.keepS (fun b o xs n e q => k b o e (by rw [q]; rfl)) gl)
  | range hit => exact .range (k _ _ hit rfl)
  | ascii hit => obtain ⟨o, ho, hc, hd⟩ := hit; exact .ascii ⟨o, k _ _ ho (by rw [hd]; rfl), hc, hd⟩
  | wide hit => obtain ⟨o, ho, hc, hd⟩ := hit; exact .wide ⟨o, k _ _ ho (by rw [hd]; rfl), hc, hd⟩

theorem str_at (x : Tx) (i : Nat) : (strOf x).cps[i]? = x[i]? := by
  show x.toArray[i]? = _
  simp
/-- one step of the iterator -/
theorem next_sound {s : Shared} {ρ : List V} {σ : Sta} {g : G} (a : At W d f A s ρ σ g) {I : Addr} {vs : List V} (x : Iter W.K g s.heap I vs) (hb : W.hb.get? I = none) {Q : Option Value → Shared → Prop} {E : Value → Shared → Prop}
    (P0 : vs = [] → ∀ s', At W d f A s' ρ σ g → (∀ b o, b ≠ I → s.heap.get? b = some o → s'.heap.get? b = some o) → Q none s')
    (P1 : ∀ v r, vs = v :: r → ∀ val s', At W d f A s' ρ σ g → (∀ b o, b ≠ I → s.heap.get? b = some o → s'.heap.get? b = some o) → Rv W.K g s'.heap v val → Iter W.K g s'.heap I r → Q (some val) s') :
    wpAny (model W.p W.w) A (pyNext (.ref I)) Q E s := by
  obtain ⟨oI, ws, hI, hId⟩ := x.fields
  have ne : ∀ {h' : Heap}, (∀ b o, b ≠ I → s.heap.get? b = some o → h'.get? b = some o) → ∀ b o xs n, s.heap.get? b = some o → o.data = .seq xs n → h'.get? b = some o := fun k b o xs n e q => k b o (fun z => by rw [z, hI] at e; cases e; rw [hId] at q; cases q) e
  cases x with
  | list hit hl hr =>
    rename_i l items i
    cases hv : items[i]? with
    | none =>
      refine wpAny_pyNext_list_end a.handled hit hl hv fun h' he => ?_
      have : items.toList.drop i = [] := List.drop_eq_nil_of_le (by simpa using hv)
      rw [this] at hr
      cases hr
      exact P0 rfl _ (a.iter hI hId hb (n := s.toks) he) he
    | some w =>
      refine wpAny_pyNext_list_item hit hl hv fun h' hit' hs => ?_
      have hw : items.toList.drop i = w :: items.toList.drop (i + 1) := List.drop_eq_getElem_cons (by have := (Array.getElem?_eq_some_iff.mp hv).1; simpa using this) |>.trans (by
        have := (Array.getElem?_eq_some_iff.mp hv)
        obtain ⟨q1, q2⟩ := this
        simp [q2])
      rw [hw] at hr
      cases hr with
      | cons r1 r2 =>
        have k := fun b o (q : b ≠ I) e => hs.extBut b o q e
        exact P1 _ _ rfl _ _ (a.iter hI hId hb (n := s.toks) k) k (r1.keepS (ne k) (.refl g)) (.list hit' (isList_keepS (ne k) hl) (r2.keepS (ne k) (.refl g)))
  | range hit =>
    rename_i a0 step n
    cases n with
    | zero =>
      refine wpAny_pyNext_range_end a.handled hit (by omega) fun h' he => ?_
      exact P0 rfl _ (a.iter hI hId hb (n := s.toks) he) he
    | succ n =>
      refine wpAny_pyNext_range_item hit (by omega) fun h' hit' hs => ?_
      have k := fun b o (q : b ≠ I) e => hs.extBut b o q e
      have e1 : ((n + 1 : Nat) : Int) - 1 = (n : Int) := by omega
      rw [e1] at hit'
      refine P1 _ _ ?_ _ _ (a.iter hI hId hb (n := s.toks + 1) k) k (.int a0 _) (.range hit')
      rw [List.range_succ_eq_map, List.map_cons, List.map_map]
      congr 1
      · simp
      · refine List.map_congr_left fun j _ => ?_
        show V.int _ = V.int _
        congr 1
        have : ((j + 1 : Nat) : Int) = (j : Int) + 1 := by omega
        show a0 + ((j + 1 : Nat) : Int) * step = _
        rw [this, Int.add_mul, Int.one_mul]; omega
  | ascii hit =>
    rename_i x t i
    cases hv : (strOf x).cps[i]? with
    | none =>
      refine wpAny_pyNext_ascii_end a.handled hit hv fun h' he => ?_
      rw [str_at] at hv
      exact P0 (by rw [List.drop_eq_nil_of_le (by simpa using hv)]; rfl) _ (a.iter hI hId hb (n := s.toks) he) he
    | some c =>
      refine wpAny_pyNext_ascii_item hit hv fun h' hit' hs => ?_
      have k := fun b o (q : b ≠ I) e => hs.extBut b o q e
      rw [str_at] at hv
      obtain ⟨q1, q2⟩ := List.getElem?_eq_some_iff.mp hv
      refine P1 (.str [c]) _ (by rw [List.drop_eq_getElem_cons q1, q2]; rfl) _ _ (a.iter hI hId hb (n := s.toks + 1) k) k (.str [c] _ (by show 1 ≤ sizeMax; decide)) (.ascii hit')
  | wide hit =>
    rename_i x t i
    cases hv : (strOf x).cps[i]? with
    | none =>
      refine wpAny_pyNext_wide_end a.handled hit hv fun h' he => ?_
      rw [str_at] at hv
      exact P0 (by rw [List.drop_eq_nil_of_le (by simpa using hv)]; rfl) _ (a.iter hI hId hb (n := s.toks) he) he
    | some c =>
      refine wpAny_pyNext_wide_item hit hv fun h' hit' hs => ?_
      have k := fun b o (q : b ≠ I) e => hs.extBut b o q e
      rw [str_at] at hv
      obtain ⟨q1, q2⟩ := List.getElem?_eq_some_iff.mp hv
      refine P1 (.str [c]) _ (by rw [List.drop_eq_getElem_cons q1, q2]; rfl) _ _ (a.iter hI hId hb (n := s.toks + 1) k) k (.str [c] _ (by show 1 ≤ sizeMax; decide)) (.wide hit')
end
end Mine
end

section
open PySem PySem.W PySem.Calls PyProof.Rows
set_option Elab.async false
set_option maxRecDepth 100000
set_option linter.unusedVariables false
namespace Mine
section
variable {W : Wd} {d : Nat} {f : FC} {A : Around} {Φ : Nat → List V → Sta → Option (V × Sta)}

theorem setFlight_on {M : Model} {A : Around} {E : Value → Shared → Prop} {s : Shared} {base : Heap} {l : List Env} {e L : Addr} {cls a0 fl : Value} {Q : Unit → Shared → Prop}
    (hkb : base.StaysIn s.heap) (hl : s.heap.FunFrames base l) (ht : s.heap.TracedAtW base e cls a0 fl)
    (h : ∀ h', base.StaysIn h' → h'.FunFrames base l → h'.TracedAtW base e cls a0 (rawInt L) → (∀ b o, s.heap.get? b = some o → (∀ vs, o.data ≠ .fields vs) → h'.get? b = some o) → Q () { s with heap := h' }) :
    wpAny M A (setFlight (.ref e) (some L)) Q E s := by
  obtain ⟨oe, vs, T, oT, ts, he, hcls, hd, h1, hnT, hTe, hT, hdT, h3⟩ := ht
  have hsz3 : 3 < ts.size := (Array.getElem?_eq_some_iff.mp h3).1
  have other : ∀ b, b ≠ T → (s.heap.update T (Obj.mapFields (·.setIfInBounds 3 ((some L : Option Addr).elim Value.none fun f => rawInt f)))).get? b = s.heap.get? b :=
    fun b hb => Heap.get?_update_other _ _ (Ne.symm hb)
  have noRecord : ∀ b o, s.heap.get? b = some o → (∀ vs, o.data ≠ .fields vs) → b ≠ T := fun b o hb hnf q => by
    rw [q, hT] at hb; injection hb with hb; subst hb; exact hnf ts hdT
  unfold setFlight
  refine wpAny_bind (wpAny_field he hd h1 ?_)
  rw [if_pos (show (Value.ref T != Value.none) = true from by simp)]
  refine wpAny_setField hT hdT hsz3 (h _ (fun b o hbo => (other b fun q => by rw [q, hnT] at hbo; cases hbo).trans (hkb b o hbo))
    (hl.of_keeps fun b o hb hnf => ⟨o, (other b (noRecord b o hb hnf)).trans hb, rfl⟩) ?_ fun b o hb hnf => (other b (noRecord b o hb hnf)).trans hb)
  exact ⟨oe, vs, T, _, _, (other e (Ne.symm hTe)).trans he, hcls, hd, h1, hnT, hTe, Heap.get?_update_self _ hT (Obj.isFreed_of_fields (Obj.data_mapFields hdT _)), Obj.data_mapFields hdT _, by simp [hsz3]⟩

theorem came_sound {M : Model} {A' : Around} {C e : Addr} {s₁ s' : Shared} (H : Held f C e s₁ s') {E : Value → Shared → Prop} (P : ∀ s'', Held f C e s₁ s'' → E (.ref e) s'') : cameBackBy M A' f.env E (.ref e) s' := by
  obtain ⟨h', a0, rfl, hh, up⟩ := H
  obtain ⟨f1, f2, f3, f4⟩ := hh
  have f4' := f4
  obtain ⟨oe, vs, T, oT, ts, he, hcls, hd, h1, hnT, hTe, hT, hdT, h3⟩ := f4
  unfold cameBackBy
  refine wpAny_bind (wpAny_field he hd h1 ?_)
  rw [if_neg (show ¬ ((Value.ref T == Value.none) = true) from by simp)]
  show wpAny M A' (setFlight (.ref e) (some f.L)) _ _ _
  refine setFlight_on (s := { s₁ with heap := h' }) f1 f3 f4' fun h'' k1 k2 k3 k4 => P _ ⟨h'', a0, rfl, ⟨k1, f2, k2, k3⟩, up.trans fun b o hb hn => ⟨o.slots, k4 b o hb hn⟩⟩

/-- an exception of a loop's body, noted and handed out of the loop -/
theorem out_sound {s s₁ s' : Shared} {g g₁ : G} {ρ' : List V} {σ' : Sta} {Q : Flow → Shared → Prop} {E : Value → Shared → Prop} {k : Nat} {e : Addr} {Γ : Model} {A' : Around} (hA : A'.frames = A.frames) (P : PostS W d f A s g ρ' σ' Q E (.exc k)) (a : At W d f A s₁ ρ' σ' g₁) (ex : ExtS f.L g₁ s.heap s₁.heap) (gl : G.le g g₁) (R : Raised f (labAddr k) e s₁ s') :
    notedBy Γ A' f.env (fun e s' => cameBackBy Γ A' f.env E e s') (.ref e) s' :=
  note_sound a R hA fun s'' H => came_sound H fun s3 H3 => P s₁ g₁ e s3 a ex gl H3.raised

theorem ss_whl {e : Expr} {t : T} {body : List Stmt} {b : S} {pos : Pos} (h1 : ST W d f A Φ e t) (h2 : SSL W d f A Φ body b) : SS1 W d f A Φ (.While e body [] pos) (.whl t b) := fun s ρ σ g fl ρ' σ' at_ h Q E P => by
  unfold exec at h
  refine wpAny_While ?_
  refine codeAny_whileLoop (fun n s₁ => ∃ ρ₁ σ₁ g₁, At W d f A s₁ ρ₁ σ₁ g₁ ∧ ExtS f.L g₁ s.heap s₁.heap ∧ G.le g g₁ ∧ iterW (fun ρ σ => evalT Φ ρ t σ) (fun ρ σ => exec Φ b ρ σ) n ρ₁ σ₁ = some (fl, ρ', σ')) ?_ FUEL ⟨ρ, σ, g, at_, .refl _ _ _, .refl _, h⟩
  rintro n s₁ ⟨ρ₁, σ₁, g₁, at₁, ex₁, gl₁, hi⟩
  cases n with
  | zero => cases hi
  | succ n =>
    unfold iterW at hi
    obtain ⟨⟨c, σ₂⟩, ec, hi⟩ := bind_some hi
    refine h1 s₁ ρ₁ σ₁ g₁ c σ₂ at₁ ec _ _ _ rfl fun s₂ g₂ at₂ ex₂ gl₂ => ?_
    have exA := ex₁.trans gl₂ ex₂.toS
    have glA := gl₁.trans gl₂
    cases c with
    | false =>
      cases hi
      exact wpAny_execs_nil (P s₂ g₂ at₂ exA glA)
    | true =>
      obtain ⟨⟨fl₃, ρ₃, σ₃⟩, eb, hi⟩ := bind_some hi
      refine h2 s₂ ρ₁ σ₂ g₂ fl₃ ρ₃ σ₃ at₂ eb _ _ ?_
      cases fl₃ with
      | next => exact fun s₃ g₃ at₃ ex₃ gl₃ => ⟨n, Nat.lt_succ_self _, ρ₃, σ₃, g₃, at₃, exA.trans gl₃ ex₃, glA.trans gl₃, hi⟩
      | cont => exact fun s₃ g₃ at₃ ex₃ gl₃ => ⟨n, Nat.lt_succ_self _, ρ₃, σ₃, g₃, at₃, exA.trans gl₃ ex₃, glA.trans gl₃, hi⟩
      | brk => cases hi; exact fun s₃ g₃ at₃ ex₃ gl₃ => P s₃ g₃ at₃ (exA.trans gl₃ ex₃) (glA.trans gl₃)
      | ret v => cases hi; exact fun s₃ g₃ val at₃ ex₃ gl₃ r => P s₃ g₃ val at₃ (exA.trans gl₃ ex₃) (glA.trans gl₃) r
      | exc k => cases hi; exact fun s₃ g₃ e s' at₃ ex₃ gl₃ R => out_sound rfl P at₃ (exA.trans gl₃ ex₃) (glA.trans gl₃) R

theorem for_sound {x : Str} {px : Pos} {body : List Stmt} {b : S} {i : Nat} (h2 : SSL W d f A Φ body b) (hi : f.nm[i]? = some x) (hnd : f.nm.Nodup) (hk : f.scope.names.lookup x = some .local) {s s₁ : Shared} {ρ ρ' : List V} {σ σ' : Sta} {g : G} {fl : Fl} {vs : List V} {I : Addr}
    (hb : W.hb.get? I = none) (h0 : s.heap.get? I = none) (at₁ : At W d f A s₁ ρ σ g) (ex : ExtS f.L g s.heap s₁.heap) (it : Iter W.K g s₁.heap I vs) (h : iterF i (fun ρ σ => exec Φ b ρ σ) vs ρ σ = some (fl, ρ', σ'))
    {Q : Flow → Shared → Prop} {E : Value → Shared → Prop} (P : PostS W d f A s g ρ' σ' Q E fl) :
    codeAny (model W.p W.w) A (.forLoop (.Name x px) (.ref I) body [] f.env) (fun r s' => match r with | .ok f => Q f s' | .error e => cameBackBy (model W.p W.w) A f.env E e s') s₁ := by
  refine codeAny_forLoop (fun n s₁ => ∃ us ρ₁ σ₁ g₁, n = us.length ∧ At W d f A s₁ ρ₁ σ₁ g₁ ∧ ExtS f.L g₁ s.heap s₁.heap ∧ G.le g g₁ ∧ Iter W.K g₁ s₁.heap I us ∧ iterF i (fun ρ σ => exec Φ b ρ σ) us ρ₁ σ₁ = some (fl, ρ', σ')) ?_ vs.length ⟨vs, ρ, σ, g, rfl, at₁, ex, .refl _, it, h⟩
  rintro n s₁ ⟨us, ρ₁, σ₁, g₁, rfl, at₁, ex₁, gl₁, it₁, hi'⟩
  have hI : ∀ b' o, s.heap.get? b' = some o → b' ≠ I := fun b' o e q => by rw [q, h0] at e; cases e
  have stp : ∀ {s₂ : Shared}, (∀ b o, b ≠ I → s₁.heap.get? b = some o → s₂.heap.get? b = some o) → ExtS f.L g₁ s.heap s₂.heap := fun k =>
    ⟨fun b' o e q => k b' o (hI b' o e) (ex₁.seq b' o e q), fun b' o e q z => let ⟨sl, e2⟩ := ex₁.dic b' o e q z; ⟨sl, k b' _ (hI b' o e) e2⟩⟩
  refine next_sound at₁ it₁ hb (fun e0 s₂ at₂ k => ?_) fun v r e0 val s₂ at₂ k rv it₂ => ?_
  · subst e0
    cases hi'
    exact wpAny_execs_nil (P s₂ g₁ at₂ (stp k) gl₁)
  · subst e0
    unfold iterF at hi'
    obtain ⟨ρ₂, es, hi'⟩ := bind_some hi'
    obtain ⟨⟨fl₃, ρ₃, σ₃⟩, eb, hi'⟩ := bind_some hi'
    refine assign_Name (store_sound at₂ hi hnd hk es rv fun s₃ at₃ ex₃ => ?_)
    have exA := (stp k).trans (.refl _) ex₃
    refine h2 s₃ ρ₂ σ₁ g₁ fl₃ ρ₃ σ₃ at₃ eb _ _ ?_
    have itA : ∀ {g₄ : G} {s₄ : Shared}, ExtS f.L g₄ s₃.heap s₄.heap → G.le g₁ g₄ → Iter W.K g₄ s₄.heap I r := fun e4 gl4 => (it₂.keep ex₃.seq (.refl _)).keep e4.seq gl4
    cases fl₃ with
    | next => exact fun s₄ g₄ at₄ ex₄ gl₄ => ⟨r.length, Nat.lt_succ_self _, r, ρ₃, σ₃, g₄, rfl, at₄, exA.trans gl₄ ex₄, gl₁.trans gl₄, itA ex₄ gl₄, hi'⟩
    | cont => exact fun s₄ g₄ at₄ ex₄ gl₄ => ⟨r.length, Nat.lt_succ_self _, r, ρ₃, σ₃, g₄, rfl, at₄, exA.trans gl₄ ex₄, gl₁.trans gl₄, itA ex₄ gl₄, hi'⟩
    | brk => cases hi'; exact fun s₄ g₄ at₄ ex₄ gl₄ => P s₄ g₄ at₄ (exA.trans gl₄ ex₄) (gl₁.trans gl₄)
    | ret v => cases hi'; exact fun s₄ g₄ val at₄ ex₄ gl₄ rr => P s₄ g₄ val at₄ (exA.trans gl₄ ex₄) (gl₁.trans gl₄) rr
    | exc k' => cases hi'; exact fun s₄ g₄ e s' at₄ ex₄ gl₄ R => out_sound rfl P at₄ (exA.trans gl₄ ex₄) (gl₁.trans gl₄) R

def noSet : Expr → Bool
  | .Set .. => false
  | _ => true
theorem folded_no {e : Expr} (h : noSet e = true) (env : Env) (x : Value) : foldedSetIterable e env x = pure x := by
  cases e <;> first | rfl | cases h
theorem At.fresh_hb {s : Shared} {ρ : List V} {σ : Sta} {g : G} (a : At W d f A s ρ σ g) {b : Addr} (h : s.heap.objs.size ≤ b) : W.hb.get? b = none := by
  cases q : W.hb.get? b with
  | none => rfl
  | some o =>
    obtain ⟨m, F, _⟩ := a.fr
    exact absurd (Heap.lt_size (F.keep b o q)) (Nat.not_lt.mpr h)

theorem ss_forx {e : Expr} {a : X} {body : List Stmt} {b : S} {i : Nat} {x : Str} {px pos : Pos} (h1 : SX W d f A Φ e a) (h2 : SSL W d f A Φ body b) (hs : noSet e = true) (hi : f.nm[i]? = some x) (hnd : f.nm.Nodup) (hk : f.scope.names.lookup x = some .local) :
    SS1 W d f A Φ (.For (.Name x px) e body [] pos) (.forx i a b) := fun s ρ σ g fl ρ' σ' at_ h Q E P => by
  unfold exec at h
  obtain ⟨⟨u, σ₁⟩, ea, h⟩ := bind_some h
  obtain ⟨vs, ev, h⟩ := bind_some h
  refine wpAny_For (h1 s ρ σ g u σ₁ at_ ea _ E fun va s₁ g₁ at₁ ex₁ gl₁ ra => ?_) (folded_no hs _)
  cases ra with
  | list hl hn hz hr =>
    rename_i us items l
    cases ev
    refine wpAny_pyIter_list hl ?_
    have P' := P.weaken ex₁.toS gl₁
    refine for_sound h2 hi hnd hk (at₁.fresh_hb (Nat.le_refl _)) (none_of_size (Nat.le_refl _)) (at₁.push _ s₁.toks) (Ext.push _ _ _).toS (.list (i := 0) ⟨_, Heap.get?_push_size _ rfl, rfl, rfl⟩ (hl.push _) ?_) h P'
    have kk : ∀ b o, s₁.heap.get? b = some o → (s₁.heap.push { cls := .type "list_iterator", data := .fields #[.ref l, .int 0 0] }).get? b = some o := fun b o e => Heap.get?_push_of_some _ e
    have gen : ∀ (us : List V) (its : List Value), its.length = us.length → (∀ (i : Nat) (v : V) (x : Value), us[i]? = some v → its[i]? = some x → Rv W.K g₁ s₁.heap v x) → RvL W.K g₁ s₁.heap us its := by
      intro us
      induction us with
      | nil => intro its hl _; cases its with
        | nil => exact .nil
        | cons _ _ => cases hl
      | cons u r ih =>
        intro its hl hr
        cases its with
        | nil => cases hl
        | cons w its => exact .cons (hr 0 u w rfl rfl) (ih its (by simpa using hl) fun i v x a b => hr (i + 1) v x (by simpa using a) (by simpa using b))
    exact (gen vs items hn hr).ext (ext_grow none kk) (.refl _)
  | str y t hy =>
    cases ev
    have P' := P.weaken ex₁.toS gl₁
    cases ha : (strOf y).cps.all (· < 128) with
    | true =>
      refine wpAny_pyIter_ascii ha ?_
      exact for_sound h2 hi hnd hk (at₁.fresh_hb (Nat.le_refl _)) (none_of_size (Nat.le_refl _)) (at₁.push _ s₁.toks) (Ext.push _ _ _).toS (.ascii (x := y) (i := 0) ⟨_, Heap.get?_push_size _ rfl, rfl, rfl⟩) h P'
    | false =>
      refine wpAny_pyIter_wide ha ?_
      exact for_sound h2 hi hnd hk (at₁.fresh_hb (Nat.le_refl _)) (none_of_size (Nat.le_refl _)) (at₁.push _ s₁.toks) (Ext.push _ _ _).toS (.wide (x := y) (i := 0) ⟨_, Heap.get?_push_size _ rfl, rfl, rfl⟩) h P'
  | _ => cases ev
end
end Mine
end

section
open PySem PySem.W PySem.Calls PyProof.Rows
set_option Elab.async false
set_option maxRecDepth 100000
set_option linter.unusedVariables false
namespace Mine
section
variable {W : Wd} {d : Nat} {f : FC} {A : Around} {Φ : Nat → List V → Sta → Option (V × Sta)}

theorem rangeSize_down (a b : Int) : Builtin.Range.rangeSize a b (-1) = (a - b).toNat := by
  unfold Builtin.Range.rangeSize
  rw [if_neg (by decide)]
  have e : (-(-1) : Int) = 1 := by decide
  rw [e]
  by_cases h : a > b
  · rw [if_pos h, Int.ediv_one]; omega
  · rw [if_neg h]; omega
theorem small_down {a b : Int} (ha : -(2 ^ 62) ≤ a) (ha' : a < 2 ^ 62) (hb : -(2 ^ 62) ≤ b) (hb' : b < 2 ^ 62) : Builtin.Range.small a b (-1) = true := by
  unfold Builtin.Range.small
  rw [rangeSize_down]
  simp only [Builtin.Range.rangeFitsLong, Bool.and_eq_true, Bool.or_eq_true, decide_eq_true_eq, beq_iff_eq, if_false, show ¬ ((-1 : Int) > 0) by decide]
  omega

theorem ss_forr_up (ok : Ok W) {e₁ e₂ : Expr} {lo hi : X} {body : List Stmt} {b : S} {i : Nat} {x : Str} {px p cp pos : Pos} (h1 : SX W d f A Φ e₁ lo) (h1' : SX W d f A Φ e₂ hi) (hs1 : noStar e₁ = true) (hs2 : noStar e₂ = true) (h2 : SSL W d f A Φ body b) (hi' : f.nm[i]? = some x) (hnd : f.nm.Nodup) (hk : f.scope.names.lookup x = some .local)
    (hr : f.scope.names.lookup ("range" : Str) = some .globalImplicit) : SS1 W d f A Φ (.For (.Name x px) (.Call (.Name "range" p) [e₁, e₂] [] cp) body [] pos) (.forr i lo hi false b) := fun s ρ σ g fl ρ' σ' at_ h Q E P => by
  unfold exec at h
  obtain ⟨⟨u, σ₁⟩, ea, h⟩ := bind_some h
  obtain ⟨⟨u', σ₂⟩, eb, h⟩ := bind_some h
  obtain ⟨vs, ev, h⟩ := bind_some h
  refine wpAny_For ?_ (fun _ => rfl)
  refine wpAny_Call_Name_kw (sx_bname ok at_ (x := "range") (v := .type "range") (by decide) (by rfl) (by decide) hr (by decide) ?_)
  have hs := SXs.cons h1 hs1 (.cons h1' hs2 .nil)
  refine PyProof.Rows.callWith_type (hs.plain cp f.env).1 ?_
  refine eargs hs at_ (evalXs_two ea eb) fun vals s₁ g₁ at₁ ex₁ gl₁ r => ?_
  obtain ⟨va, vb, rfl, ra, rb⟩ := r.two
  cases ra with
  | int a t =>
    cases rb with
    | int c t' =>
      simp only [rangeV] at ev
      split at ev
      · rename_i hsm
        cases ev
        obtain ⟨q1, q2⟩ := Bool.and_eq_true_iff.mp hsm
        have b1 := small_lt q1
        have b2 := small_lt q2
        refine call_range_2 ?_
        refine wpAny_pyIter_range (IsRange.new ..) (small_one (by omega) (by omega) (by omega) (by omega)) ?_
        have P' := P.weaken ex₁.toS gl₁
        have at₂ := (at₁.push { cls := .type "range", data := .fields #[.int a t, .int c t', .int 1 s₁.toks] } (s₁.toks + 1)).push { cls := .type "range_iterator", data := .fields #[rawInt a, rawInt (Builtin.Range.rangeSize a c 1), rawInt 1] } (s₁.toks + 1)
        have hz : (s₁.heap.push { cls := .type "range", data := .fields #[.int a t, .int c t', .int 1 s₁.toks] }).objs.size = s₁.heap.objs.size + 1 := Heap.size_push ..
        have it : Iter W.K g₁ ((s₁.heap.push { cls := .type "range", data := .fields #[.int a t, .int c t', .int 1 s₁.toks] }).push { cls := .type "range_iterator", data := .fields #[rawInt a, rawInt (Builtin.Range.rangeSize a c 1), rawInt 1] }) (s₁.heap.push { cls := .type "range", data := .fields #[.int a t, .int c t', .int 1 s₁.toks] }).objs.size (rangeUp a (c - a).toNat) := by
          have := Iter.range (K := W.K) (g := g₁) (h := (s₁.heap.push { cls := .type "range", data := .fields #[.int a t, .int c t', .int 1 s₁.toks] }).push { cls := .type "range_iterator", data := .fields #[rawInt a, rawInt (Builtin.Range.rangeSize a c 1), rawInt 1] }) (I := (s₁.heap.push { cls := .type "range", data := .fields #[.int a t, .int c t', .int 1 s₁.toks] }).objs.size) (a := a) (step := 1) (n := (c - a).toNat) (by
            have e : ((c - a).toNat : Int) = Builtin.Range.rangeSize a c 1 := by rw [rangeSize_one]; split <;> omega
            rw [e]; exact Heap.get?_push_size _ rfl)
          have e2 : ((List.range (c - a).toNat).map fun (k : Nat) => V.int (a + (k : Int) * 1)) = rangeUp a (c - a).toNat := by
            unfold rangeUp
            exact List.map_congr_left fun k _ => by rw [Int.mul_one]
          rw [e2] at this; exact this
        exact for_sound h2 hi' hnd hk (at₁.fresh_hb (by rw [hz]; exact Nat.le_succ _)) (none_of_size (by rw [hz]; exact Nat.le_succ _)) at₂ ((Ext.push _ _ _).trans (.refl _) (Ext.push _ _ _)).toS it h P'
      · cases ev
    | _ => cases ev
  | _ => cases rb <;> cases ev


theorem evalXs_three {ρ : List V} {a b c : X} {σ σ' σ'' σ3 : Sta} {x y z : V} (h : evalX Φ ρ a σ = some (x, σ')) (h2 : evalX Φ ρ b σ' = some (y, σ'')) (h3 : evalX Φ ρ c σ'' = some (z, σ3)) : evalXs Φ ρ (.cons a (.cons b (.cons c .nil))) σ = some ([x, y, z], σ3) := by
  simp only [evalXs, h, h2, h3, Option.bind_eq_bind, Option.bind_some]

theorem ss_forr_down (ok : Ok W) {e₁ e₂ : Expr} {lo hi : X} {body : List Stmt} {b : S} {i : Nat} {x : Str} {px p cp p1 p2 pos : Pos} {k : Nat} (h1 : SX W d f A Φ e₁ lo) (h1' : SX W d f A Φ e₂ hi) (hs1 : noStar e₁ = true) (hs2 : noStar e₂ = true) (h2 : SSL W d f A Φ body b) (hi' : f.nm[i]? = some x) (hnd : f.nm.Nodup) (hk : f.scope.names.lookup x = some .local)
    (hr : f.scope.names.lookup ("range" : Str) = some .globalImplicit) : SS1 W d f A Φ (.For (.Name x px) (.Call (.Name "range" p) [e₁, e₂, .UnaryOp .USub (.Constant (.int 1) k p1) p2] [] cp) body [] pos) (.forr i lo hi true b) := fun s ρ σ g fl ρ' σ' at_ h Q E P => by
  unfold exec at h
  obtain ⟨⟨u, σ₁⟩, ea, h⟩ := bind_some h
  obtain ⟨⟨u', σ₂⟩, eb, h⟩ := bind_some h
  obtain ⟨vs, ev, h⟩ := bind_some h
  refine wpAny_For ?_ (fun _ => rfl)
  refine wpAny_Call_Name_kw (sx_bname ok at_ (x := "range") (v := .type "range") (by decide) (by rfl) (by decide) hr (by decide) ?_)
  have h3 : SX W d f A Φ (.UnaryOp .USub (.Constant (.int 1) k p1) p2) (.neg (.cst (.int 1))) := sx_neg sx_int
  have hs := SXs.cons h1 hs1 (.cons h1' hs2 (.cons h3 rfl .nil))
  refine PyProof.Rows.callWith_type (hs.plain cp f.env).1 ?_
  have e3 : evalX Φ ρ (.neg (.cst (.int 1))) σ₂ = some (.int (-1), σ₂) := by
    simp only [evalX, negV, Option.bind_eq_bind, Option.bind_some]
  refine eargs hs at_ (evalXs_three ea eb e3) fun vals s₁ g₁ at₁ ex₁ gl₁ r => ?_
  cases r with
  | cons ra r =>
  rename_i va vals
  obtain ⟨vb, vc, rfl, rb, rc⟩ := r.two
  cases rc with
  | int c1 tc =>
  cases ra with
  | int a t =>
    cases rb with
    | int c t' =>
      simp only [rangeV] at ev
      split at ev
      · rename_i hsm
        cases ev
        obtain ⟨q1, q2⟩ := Bool.and_eq_true_iff.mp hsm
        have b1 := small_lt q1
        have b2 := small_lt q2
        refine call_range_3 (by decide) ?_ (.inl (PyProof.noPylong_small (by decide)))
        refine wpAny_pyIter_range (IsRange.new ..) (small_down (by omega) (by omega) (by omega) (by omega)) ?_
        have P' := P.weaken ex₁.toS gl₁
        have at₂ := (at₁.push { cls := .type "range", data := .fields #[.int a t, .int c t', .int (-1) tc] } s₁.toks).push { cls := .type "range_iterator", data := .fields #[rawInt a, rawInt (Builtin.Range.rangeSize a c (-1)), rawInt (-1)] } s₁.toks
        have hz : (s₁.heap.push { cls := .type "range", data := .fields #[.int a t, .int c t', .int (-1) tc] }).objs.size = s₁.heap.objs.size + 1 := Heap.size_push ..
        have it : Iter W.K g₁ ((s₁.heap.push { cls := .type "range", data := .fields #[.int a t, .int c t', .int (-1) tc] }).push { cls := .type "range_iterator", data := .fields #[rawInt a, rawInt (Builtin.Range.rangeSize a c (-1)), rawInt (-1)] }) (s₁.heap.push { cls := .type "range", data := .fields #[.int a t, .int c t', .int (-1) tc] }).objs.size (rangeDown a (a - c).toNat) := by
          have := Iter.range (K := W.K) (g := g₁) (h := (s₁.heap.push { cls := .type "range", data := .fields #[.int a t, .int c t', .int (-1) tc] }).push { cls := .type "range_iterator", data := .fields #[rawInt a, rawInt (Builtin.Range.rangeSize a c (-1)), rawInt (-1)] }) (I := (s₁.heap.push { cls := .type "range", data := .fields #[.int a t, .int c t', .int (-1) tc] }).objs.size) (a := a) (step := -1) (n := (a - c).toNat) (by
            rw [← rangeSize_down]; exact Heap.get?_push_size _ rfl)
          have e2 : ((List.range (a - c).toNat).map fun (k : Nat) => V.int (a + (k : Int) * -1)) = rangeDown a (a - c).toNat := by
            unfold rangeDown
            exact List.map_congr_left fun k _ => by congr 1; omega
          rw [e2] at this; exact this
        exact for_sound h2 hi' hnd hk (at₁.fresh_hb (by rw [hz]; exact Nat.le_succ _)) (none_of_size (by rw [hz]; exact Nat.le_succ _)) at₂ ((Ext.push _ _ _).trans (.refl _) (Ext.push _ _ _)).toS it h P'
      · cases ev
    | _ => cases ev
  | _ => cases rb <;> cases ev
end
end Mine
end

section
open PySem PySem.W PySem.Calls PyProof.Rows
set_option Elab.async false
set_option maxRecDepth 100000
set_option linter.unusedVariables false
namespace Mine

inductive ConstList : List Expr → List Tx → Prop where
  | nil : ConstList [] []
  | cons {es : List Expr} {cs : List Tx} {c : Tx} {k : Nat} {p : Pos} (hz : c.length ≤ sizeMax) (t : ConstList es cs) : ConstList (.Constant (.str (strOf c)) k p :: es) (c :: cs)
theorem ConstList.len {es : List Expr} {cs : List Tx} (h : ConstList es cs) : es.length = cs.length := by
  induction h with
  | nil => rfl
  | cons hz t ih => simp [ih]
theorem consts_sound {M : Model} {A : Around} {env : Env} {pos : Pos} {K : Frag} {g : G} {es : List Expr} {cs : List Tx} (h : ConstList es cs) : ∀ {s : Shared} {Q : List Value → Shared → Prop} {E : Value → Shared → Prop}, (∀ vals tk, (∀ h, RvL K g h (cs.map .str) vals) → Q vals { s with toks := tk }) → wpAny M A (spliced (backTo pos (starEach es env))) Q E s := by
  induction h with
  | nil => intro s Q E P; exact spliced_none (P [] s.toks fun _ => .nil)
  | cons hz t ih =>
    intro s Q E P
    refine spliced_more ?_ rfl
    show wpAny M A (mkText _) _ _ _
    refine wpAny_mkText ?_
    exact ih fun vals tk r => P _ tk fun h => .cons (.str _ _ hz) (r h)

/-- the def of a vowel, as the top has it -/
structure VowFn (W : Wd) : Prop where
  shape : ∃ (name qual : Str) (params : Arguments) (scope : Scope) (dV kV doc pm : Value) (an : Option Addr) (cdv ct oc : Value) (od : Option Addr) (osl : Array (Option Value)) (sp : Str) (elts : List Expr) (lp p1 cp rp : Pos),
    W.K.lookup 631 = some ⟨oc, od, .func (fnOf name qual params [.Return (some (.Compare (.Name sp p1) [.In] [.List elts lp] cp)) rp] scope dV kV doc pm an cdv ct), osl⟩ ∧ codeIn W.K cdv qual = true ∧ scope.kind = .function ∧ scope.isCoroutine = false ∧ scope.isGenerator = false ∧
    (∀ x ∈ scope.names, x.2 ≠ .cell) ∧ (∀ s v, BindsTo s (fnOf name qual params [.Return (some (.Compare (.Name sp p1) [.In] [.List elts lp] cp)) rp] scope dV kV doc pm an cdv ct) ⟨[v], []⟩ [(sp, v)]) ∧
    scope.names.lookup sp = some .local ∧ (sp == ("__debug__" : Str)) = false ∧ ConstList elts vowelTx

theorem vowel_call {W : Wd} (ok : Ok W) (hV : VowFn W) {A : Around} {s : Shared} {x : Tx} {t : Tok} (hk : ∀ b o, W.hb.get? b = some o → s.heap.get? b = some o) (hd : A.depth < 1000) {Q : Value → Shared → Prop} {E : Value → Shared → Prop}
    (P : ∀ h' tk, (∀ b o, s.heap.get? b = some o → h'.get? b = some o) → Q (.bool (vowelTx.contains x)) { s with heap := h', toks := tk }) : wpAny (model W.p W.w) A (call (.ref 631) [.str (strOf x) t]) Q E s := by
  obtain ⟨name, qual, params, scope, dV, kV, doc, pm, an, cdv, ct, oc, od, osl, sp, elts, lp, p1, cp, rp, q1, q2, q3, q4, q5, q6, q7, q8, q9, q10⟩ := hV.shape
  have X := ok.X.keeps hk
  refine wpAny_call (codeAny_call_def (binds := [(sp, .str (strOf x) t)]) hd (X _ _ q1) rfl (ok.T.nolimit.keeps hk) (codeRec_of X q2) rfl (q7 _ _) q6 (fun y hy => ?_) (fun h₀ hns k₀ => ?_) q4 q5 q3)
  · cases hy with
    | head => exact q8
    | tail _ h => cases h
  · refine wpAny_execs_cons ?_
    rw [exec_Return_some]
    refine wpAny_bind (wpAny_standAt (wpAny_bind ?_))
    refine wpAny_Compare1 ?_ rfl
    refine wpAny_Name (wpAny_loadName_local q3 q8 (v := .str (strOf x) t) hns (by simp) ?_) q9
    refine List_ (consts_sound (K := W.K) (g := none) q10 fun vals tk r => ?_)
    refine wpAny_newList ?_ (by
      have := (r h₀).len
      rw [this]; show 6 ≤ sizeLine; decide)
    refine PySem.SeqAt.in_listAt (isTx x) (items := vals.toArray) ⟨_, Heap.get?_push_size _ rfl, rfl, _, rfl⟩ (fun y hy => ?_) ?_
    · obtain ⟨i, hi⟩ := List.getElem?_of_mem (List.mem_toArray.mp hy)
      have hi' : i < vals.length := (List.getElem?_eq_some_iff.mp hi).1
      have hlen : vals.length = (vowelTx.map V.str).length := (r h₀).len
      obtain ⟨c, hc⟩ : ∃ c, vowelTx[i]? = some c := ⟨vowelTx[i]'(by rw [List.length_map] at hlen; omega), List.getElem?_eq_getElem _⟩
      have := (r h₀).at i (.str c) y (by rw [List.getElem?_map, hc]; rfl) hi
      cases this
      exact (SeqRoads2.EqGives.str _ _ _ _).at _ _
    · have e : vals.toArray.any (isTx x) = vowelTx.contains x := by rw [List.any_toArray]; exact any_isTx x (r h₀)
      rw [e]
      refine wpAny_pure ?_
      exact P _ _ fun b o e => Heap.get?_push_of_some _ (k₀ b o e)

section
variable {W : Wd} {d : Nat} {f : FC} {A : Around} {Φ : Nat → List V → Sta → Option (V × Sta)}

theorem anyVow_str : ∀ {vs : List V} {b : Bool}, anyVow vs = some b → ∀ v ∈ vs, ∃ a, v = .str a
  | [], _, _, v, h => by cases h
  | .str a :: r, b, h, v, hv => by
    simp only [anyVow] at h
    obtain ⟨c, hc, _⟩ := Option.map_eq_some_iff.mp h
    cases hv with
    | head => exact ⟨a, rfl⟩
    | tail _ hv => exact anyVow_str hc v hv
def isV : Value → Bool
  | .str y _ => vowelTx.contains y.cps.toList
  | _ => false
theorem anyVow_vals {K : Frag} {g : G} {h : Heap} : ∀ {vs : List V} {vals : List Value} {b : Bool}, RvL K g h vs vals → anyVow vs = some b → vals.any isV = b
  | [], _, b, .nil, e => by cases e; rfl
  | v :: r, _, b, .cons a t, e => by
    obtain ⟨x, rfl⟩ := anyVow_str e v (.head _)
    simp only [anyVow] at e
    obtain ⟨c, hc, rfl⟩ := Option.map_eq_some_iff.mp e
    cases a
    rw [List.any_cons, anyVow_vals t hc]
    rfl

theorem sx_anyV (ok : OkF W) (hV : VowFn W) {it : Expr} {a : X} {x : Str} {scope : Scope} {p p3 p4 p5 px lp pos : Pos} (h1 : SX W d f A Φ it a) (hs : noSet it = true) (hany : f.scope.names.lookup ("any" : Str) = some .globalImplicit)
    (hfree : (scope.names.all fun y => y.2 != .free && y.2 != .cell) = true) (hkind : scope.kind = .function) (hnames : (scope.names.all fun y => y.2 != .local || scope.names.lookup y.1 == some .local) = true) (hx : scope.names.lookup x = some .local) (hxd : (x == ("__debug__" : Str)) = false) (hv : scope.names.lookup ("_law_vowel" : Str) = some .globalImplicit) :
    SX W d f A Φ (.Call (.Name "any" p) [.ListComp (.Call (.Name "_law_vowel" p3) [.Name x p4] [] p5) [⟨.Name x px, it, [], 0⟩] scope lp] [] pos) (.anyV a) := fun s ρ σ g v σ' at_ h Q E P => by
  unfold evalX at h
  obtain ⟨⟨u, σ₁⟩, ea, h⟩ := bind_some h
  obtain ⟨z, eo, h⟩ := bind_some h
  cases h
  refine wpAny_Call_Name_kw (sx_bname ok.ok at_ (x := "any") (v := .builtin "any") (by decide) (by rfl) (by decide) hany (by decide) ?_)
  refine callWith_builtin rfl (evalArgs_plain (spliced_cons ?_))
  refine wpAny_ListComp_map (fun _ => true) (fun v y => y = .bool (isV v)) at_.handled (fun y hy => ?_) (fun y hy => ?_) hkind (fun y hy hl => ?_) hx ?_ (folded_no hs _)
  · have := List.all_eq_true.mp hfree y hy
    simp only [Bool.and_eq_true, bne_iff_ne] at this
    exact this.1
  · have := List.all_eq_true.mp hfree y hy
    simp only [Bool.and_eq_true, bne_iff_ne] at this
    exact this.2
  · have := List.all_eq_true.mp hnames y hy
    rw [hl] at this
    simpa using this
  · refine h1 s ρ σ g u _ at_ ea _ E fun va s₁ g₁ at₁ ex₁ gl₁ ra => ?_
    cases ra with
    | list hl hn hz hr =>
      rename_i vs items l
      obtain ⟨b, hb, rfl⟩ := Option.map_eq_some_iff.mp eo
      have hstr : ∀ w ∈ items, ∃ y t, w = .str (strOf y) t := fun w hw => by
        obtain ⟨i, hi⟩ := List.getElem?_of_mem hw
        have hi' : i < items.length := (List.getElem?_eq_some_iff.mp hi).1
        obtain ⟨c, hc⟩ : ∃ c, vs[i]? = some c := ⟨vs[i]'(by omega), List.getElem?_eq_getElem _⟩
        obtain ⟨y, rfl⟩ := anyVow_str hb c (List.mem_of_getElem? hc)
        have := hr i _ w hc hi
        cases this
        exact ⟨y, _, rfl⟩
      obtain ⟨m₁, F₁, _⟩ := at₁.fr
      have hbk : ∀ b o, W.hb.get? b = some o → s₁.heap.get? b = some o := F₁.keep
      refine ⟨l, items.toArray, rfl, hl, by rw [List.size_toArray, hn]; exact sizeMax_le hz, ?_, ?_, ?_⟩
      · intro C w s₂ m₂ E' hw hns hm hk
        exact wpAny_tests_nil ⟨rfl, s₂.heap, s₂.toks, rfl, fun _ _ e => e⟩
      · intro C w s₂ m₂ E' hw _ hns hm hk
        obtain ⟨y, t, rfl⟩ := hstr w (List.mem_toArray.mp hw)
        have hbk2 : ∀ b o, W.hb.get? b = some o → s₂.heap.get? b = some o := fun b o e => hk b o (hbk b o e)
        refine wpAny_Call_Name_kw ?_
        have hmg := mg_of ok.ok.X ok.ok.T.g ((ok.fn 28 false "_law_vowel" 631 rfl).2.2)
        refine Name_function_global (env := compEnv scope C f.env) hkind hv (loadGlobal_global (env := compEnv scope C f.env) (ok.ok.T.g.keeps hbk2) hmg ?_) (by decide)
        refine callWith_of (P := fun h => W.K.In h) rfl (keeps_K (ok.fn 28 false "_law_vowel" 631 rfl).1) (evalArgs_plain (spliced_cons ?_))
        refine wpAny_Name (wpAny_loadName_local (env := compEnv scope C f.env) hkind hx hns hm ?_) hxd
        refine spliced_nil ⟨ok.ok.X.keeps hbk2, ?_⟩
        refine vowel_call ok.ok hV hbk2 (by have := at_.depth; omega) fun h' tk k => ?_
        exact ⟨rfl, h', tk, rfl, k⟩
      · intro D h' tk ys hD hlD hP hk
        refine spliced_nil ?_
        have at₂ : At W d f A { s₁ with heap := h', toks := tk } ρ σ' g₁ := at₁.grow hk
        have hP : Paired (fun v y => y = Value.bool (isV v)) items ys.toList := by
          have e : items.filter (fun _ => true) = items := List.filter_eq_self.mpr fun _ _ => rfl
          rw [← e]; exact hP
        have hlen : ys.size = items.length := by
          have := hP.length
          simpa using this.symm
        have hys : ∀ (i : Nat) (w : Value), ys[i]? = some w → ∃ u, items[i]? = some u ∧ w = .bool (isV u) := by
          have gen : ∀ {l1 l2 : List Value}, Paired (fun v y => y = Value.bool (isV v)) l1 l2 → ∀ (i : Nat) (w : Value), l2[i]? = some w → ∃ u, l1[i]? = some u ∧ w = .bool (isV u) := by
            intro l1 l2 hp
            induction hp with
            | nil => intro i w h; simp at h
            | cons hab _ ih =>
              intro i w h
              cases i with
              | zero => simp at h; subst h; exact ⟨_, rfl, hab⟩
              | succ i => simpa using ih i w (by simpa using h)
          intro i w h
          have := gen hP i w (by simpa using h)
          simpa using this
        refine call_any_walk (wpAny_pyIter_list hlD ?_)
        refine ⟨h'.objs.size, _, _, _, _, _, (fun i => (items[i]?.map isV).getD false), rfl, Walks.list (A := A.in1) at_.handled h'.objs.size D (by obtain ⟨o, ho, _⟩ := hlD; exact Nat.ne_of_lt (Heap.lt_size ho)) ys, ⟨⟨_, Heap.get?_push_size _ rfl, rfl, rfl⟩, hlD.push _⟩, ?_, ?_⟩
        · intro i w s Q' E' hw hq
          obtain ⟨u, hu, rfl⟩ := hys i w hw
          have hq : Q' ((items[i]?.map isV).getD false) s := hq
          rw [hu] at hq
          exact wpAny_truthy_bool hq
        · intro h'' tk'' hk''
          have e : ((List.range ys.size).any fun i => (items[i]?.map isV).getD false) = items.any isV := by
            rw [hlen]
            rw [Bool.eq_iff_iff, List.any_eq_true, List.any_eq_true]
            constructor
            · rintro ⟨i, _, hi⟩
              cases q : items[i]? with
              | none => rw [q] at hi; cases hi
              | some u => rw [q] at hi; exact ⟨u, List.mem_of_getElem? q, hi⟩
            · rintro ⟨u, hu, hi⟩
              obtain ⟨i, q⟩ := List.getElem?_of_mem hu
              exact ⟨i, List.mem_range.mpr (List.getElem?_eq_some_iff.mp q).1, by rw [q]; exact hi⟩
          have gen2 : ∀ (us : List V) (its : List Value), its.length = us.length → (∀ (i : Nat) (v : V) (x : Value), us[i]? = some v → its[i]? = some x → Rv W.K g₁ s₁.heap v x) → RvL W.K g₁ s₁.heap us its := by
            intro us
            induction us with
            | nil => intro its hl _; cases its with
              | nil => exact .nil
              | cons _ _ => cases hl
            | cons u r ih =>
              intro its hl hr
              cases its with
              | nil => cases hl
              | cons w its => exact .cons (hr 0 u w rfl rfl) (ih its (by simpa using hl) fun i v x a b => hr (i + 1) v x (by simpa using a) (by simpa using b))
          rw [e, anyVow_vals (gen2 vs items hn hr) hb]
          have kk : ∀ b o, h'.get? b = some o → h''.get? b = some o := fun b o e => hk'' b o (fun hm => by
            cases hm with
            | head => exact Nat.lt_irrefl _ (Heap.lt_size e)
            | tail _ hm => cases hm) (Heap.get?_push_of_some _ e)
          exact P _ _ g₁ (at₂.grow kk) (ex₁.trans (.refl _) (ext_grow _ fun b o e => kk b o (hk b o e))) gl₁ (.bool _)
    | _ => cases eo
end
end Mine
end

section
open PySem PySem.W PySem.Calls PyProof.Rows
set_option Elab.async false
set_option maxRecDepth 100000
set_option linter.unusedVariables false
namespace Mine

/-- what the check must know of a def: its locals in order, the kinds of its names -/
structure Cx where
  nm : List Str
  names : List (Str × NameKind)
def nodbg (x : Str) : Bool := !(x == ("__debug__" : Str))
def isLoc (c : Cx) (i : Nat) (x : Str) : Bool := c.nm[i]? == some x && c.names.lookup x == some .local && nodbg x
def isGlb (c : Cx) (x : Str) : Bool := c.names.lookup x == some .globalImplicit && nodbg x
def cstIs : V → Const → Bool
  | .none, .none => true
  | .bool a, .bool b => a == b
  | .int a, .int b => decide (a = b)
  | .str a, .str b => decide (b = strOf a) && decide (a.length ≤ 1000)
  | _, _ => false
def bopIs : Bop → Operator → Bool
  | .add, .Add => true | .sub, .Sub => true | .mul, .Mult => true | .mod, .Mod => true | .shr, .RShift => true | _, _ => false
def copIs : Cop → CmpOp → Bool
  | .lt, .Lt => true | .le, .LtE => true | .gt, .Gt => true | .ge, .GtE => true | .eq, .Eq => true | .ne, .NotEq => true | _, _ => false
def inIs : Bool → CmpOp → Bool
  | true, .NotIn => true | false, .In => true | _, _ => false
def constsAre : List Tx → List Expr → Bool
  | [], [] => true
  | c :: cs, .Constant (.str x) _ _ :: es => decide (x = strOf c) && decide (c.length ≤ 1000) && constsAre cs es
  | _, _ => false
def isNoneX : X → Bool
  | .cst .none => true
  | _ => false
theorem bop_of {o : Bop} {p : Operator} (h : bopIs o p = true) : p = o.py := by cases o <;> cases p <;> first | rfl | cases h
theorem cop_of {o : Cop} {p : CmpOp} (h : copIs o p = true) : p = o.py := by cases o <;> cases p <;> first | rfl | cases h
theorem in_of {n : Bool} {p : CmpOp} (h : inIs n p = true) : p = if n then .NotIn else .In := by cases n <;> cases p <;> first | rfl | cases h
theorem constsAre_of : ∀ {cs : List Tx} {es : List Expr}, constsAre cs es = true → ConstList es cs
  | [], [], _ => .nil
  | [], _ :: _, h => by cases h
  | _ :: _, [], h => by cases h
  | c :: cs, e :: es, h => by
    unfold constsAre at h
    split at h
    · rename_i q1 q2; cases q1
    · rename_i c' cs' x k p es' q1 q2
      cases q1; cases q2
      simp only [Bool.and_eq_true, decide_eq_true_eq] at h
      obtain ⟨⟨rfl, hz⟩, hr⟩ := h
      exact .cons (Nat.le_trans hz (by decide)) (constsAre_of hr)
    · cases h

mutual
def chkX (c : Cx) : X → Expr → Bool
  | .loc i, e => match e with | .Name x _ => isLoc c i x | _ => false
  | .cst v, e => match e with | .Constant k _ _ => cstIs v k | _ => false
  | .glb k, e => match e with
    | .Name x _ => glbNames[k]? == some x && decide (10 < k) && isGlb c x
    | .Attribute (.Name o _) x _ => o == ("PorterStemmer" : Str) && glbNames[k]? == some x && decide (k ≤ 10) && isGlb c o
    | _ => false
  | .fld i f, e => match e with | .Attribute (.Name o _) x _ => isLoc c i o && x == f.name | _ => false
  | .aat i k, e => match e with | .Attribute (.Name o _) x _ => isLoc c i o && x == aatName k | _ => false
  | .bin o a b, e => match e with | .BinOp l p r _ => bopIs o p && chkX c a l && chkX c b r | _ => false
  | .cmp o a b, e => match e with | .Compare l [p] [r] _ => copIs o p && chkX c a l && chkX c b r | _ => false
  | .neg a, e => match e with | .UnaryOp .USub x _ => chkX c a x | _ => false
  | .notv a, e => match e with | .UnaryOp .Not x _ => chkX c a x | _ => false
  | .andv a b, e => match e with | .BoolOp .And [x, y] _ => chkX c a x && chkX c b y | _ => false
  | .orv a b, e => match e with | .BoolOp .Or [x, y] _ => chkX c a x && chkX c b y | _ => false
  | .inset n a b, e => match e with | .Compare l [p] [r] _ => inIs n p && chkX c a l && chkX c b r && noSet r | _ => false
  | .inl a cs, e => match e with | .Compare l [.In] [.List es _] _ => chkX c a l && constsAre cs es && decide (cs.length ≤ 1000) | _ => false
  | .idx a b, e => match e with | .Subscript v i _ => chkX c a v && chkX c b i && noSlice i | _ => false
  | .slc a lo hi, e => match e with
    | .Subscript v (.Slice l h none _) _ => chkX c a v && (match l with | some l => chkX c lo l | none => isNoneX lo) && (match h with | some h => chkX c hi h | none => isNoneX hi)
    | _ => false
  | .len a, e => match e with | .Call (.Name x _) [y] [] _ => x == ("len" : Str) && isGlb c x && chkX c a y && noStar y | _ => false
  | .ord a, e => match e with | .Call (.Name x _) [y] [] _ => x == ("ord" : Str) && isGlb c x && chkX c a y && noStar y | _ => false
  | .min a b, e => match e with | .Call (.Name x _) [y, z] [] _ => x == ("min" : Str) && isGlb c x && chkX c a y && noStar y && chkX c b z && noStar z | _ => false
  | .isStr a, e => match e with | .Call (.Name x _) [y, .Name z _] [] _ => x == ("isinstance" : Str) && z == ("str" : Str) && isGlb c x && isGlb c z && chkX c a y && noStar y | _ => false
  | .anyV a, e => match e with
    | .Call (.Name x _) [.ListComp (.Call (.Name v _) [.Name y _] [] _) [⟨.Name z _, it, [], 0⟩] sc _] [] _ => x == ("any" : Str) && isGlb c x && chkX c a it && noSet it && v == ("_law_vowel" : Str) && y == z &&
        (sc.names.all fun y => y.2 != .free && y.2 != .cell) && sc.kind == .function && (sc.names.all fun y => y.2 != .local || sc.names.lookup y.1 == some .local) && sc.names.lookup z == some .local && nodbg z && sc.names.lookup v == some .globalImplicit
    | _ => false
  | .endsw a b, e => match e with | .Call (.Attribute o x ap) [y] [] pos => x == ("endswith" : Str) && chkX c a o && chkX c b y && noCall o && noStar y && ap.endLine == pos.line | _ => false
  | .call f as, e => match e with | .Call (.Name x _) es [] _ => (match fnTab[f]? with | some (b, y, _) => !b && x == y | none => false) && isGlb c x && chkXs c as es | _ => false
  | .meth f i as, e => match e with
    | .Call (.Attribute (.Name o _) x ap) es [] pos => (match fnTab[f]? with | some (b, y, _) => b && x == y | none => false) && isLoc c i o && chkXs c as es && ap.endLine == pos.line && decide (es.length < 29)
    | _ => false
  | .new f, e => match e with | .Call (.Name x _) [] [] _ => x == ("PorterStemmer" : Str) && isGlb c x && decide (f = 13) | _ => false
  | .tup as, e => match e with | .Tuple es _ _ => chkXs c as es && decide (es.length ≤ 1000) | _ => false
  | .list as, e => match e with | .List es _ => chkXs c as es && decide (es.length ≤ 1000) | _ => false
def chkXs (c : Cx) : Xs → List Expr → Bool
  | .nil, es => match es with | [] => true | _ => false
  | .cons a r, es => match es with | e :: es => chkX c a e && noStar e && chkXs c r es | _ => false
end

def chkT (c : Cx) : T → Expr → Bool
  | .x a, e => chkX c a e && (match e with | .Compare _ [_] [_] _ => true | e => plainT e)
  | .not a, e => match e with | .UnaryOp .Not x _ => chkT c a x | _ => false
  | .tt, e => match e with | .BoolOp .And [] _ => true | _ => false
  | .ff, e => match e with | .BoolOp .Or [] _ => true | _ => false
  | .and a b, e => match e with | .BoolOp .And (x :: es) p => chkT c a x && chkT c b (.BoolOp .And es p) | _ => false
  | .or a b, e => match e with | .BoolOp .Or (x :: es) p => chkT c a x && chkT c b (.BoolOp .Or es p) | _ => false

section
variable {W : Wd} {d : Nat} {f : FC} {A : Around} {Φ : Nat → List V → Sta → Option (V × Sta)} {c : Cx}
structure CxOk (c : Cx) (f : FC) : Prop where
  nm : f.nm = c.nm
  names : f.scope.names = c.names
theorem loc_of (h : CxOk c f) {i : Nat} {x : Str} (q : isLoc c i x = true) : f.scope.names.lookup x = some .local ∧ (x == ("__debug__" : Str)) = false ∧ f.nm[i]? = some x := by
  unfold isLoc nodbg at q
  simp only [Bool.and_eq_true, beq_iff_eq, Bool.not_eq_true'] at q
  rw [h.nm, h.names]
  exact ⟨q.1.2, q.2, q.1.1⟩
theorem glb_of (h : CxOk c f) {x : Str} (q : isGlb c x = true) : f.scope.names.lookup x = some .globalImplicit ∧ (x == ("__debug__" : Str)) = false := by
  unfold isGlb nodbg at q
  simp only [Bool.and_eq_true, beq_iff_eq, Bool.not_eq_true'] at q
  rw [h.names]
  exact q
theorem cst_sx {v : V} {k : Const} {n : Nat} {p : Pos} (h : cstIs v k = true) : SX W d f A Φ (.Constant k n p) (.cst v) := by
  unfold cstIs at h
  split at h
  · exact sx_none
  · rw [eq_of_beq h]; exact sx_bool
  · rw [of_decide_eq_true h]; exact sx_int
  · simp only [Bool.and_eq_true, decide_eq_true_eq] at h
    exact sx_str h.1 (Nat.le_trans h.2 (by decide))
  · cases h
theorem consts_sxs : ∀ {cs : List Tx} {es : List Expr}, ConstList es cs → SXs W d f A Φ es (xsOf cs)
  | _, _, .nil => .nil
  | _, _, .cons hz t => .cons (sx_str rfl hz) rfl (consts_sxs t)
theorem marks_set {p : CmpOp} {r : Expr} (h : noSet r = true) : behindInMarks p r = false := by
  cases r <;> first | rfl | cases h
theorem none_of {x : X} (h : isNoneX x = true) : x = .cst .none := by
  unfold isNoneX at h
  split at h
  · rfl
  · cases h

mutual
theorem chkX_sound (cx : CxOk c f) (ok : OkF W) (hV : VowFn W) (hΦ : SPhi W d Φ) : ∀ (x : X) (e : Expr), chkX c x e = true → SX W d f A Φ e x
  | .loc i, e, h => by
    unfold chkX at h
    split at h
    · obtain ⟨a, b, q⟩ := loc_of cx h; exact sx_loc a b q
    · cases h
  | .cst v, e, h => by
    unfold chkX at h
    split at h
    · exact cst_sx h
    · cases h
  | .glb k, e, h => by
    unfold chkX at h
    split at h
    · simp only [Bool.and_eq_true, beq_iff_eq, decide_eq_true_eq] at h
      obtain ⟨a, b⟩ := glb_of cx h.2
      exact sx_glb ok.ok h.1.1 h.1.2 a b
    · simp only [Bool.and_eq_true, beq_iff_eq, decide_eq_true_eq] at h
      obtain ⟨⟨⟨rfl, h2⟩, h3⟩, h4⟩ := h
      obtain ⟨a, b⟩ := glb_of cx h4
      exact sx_attr ok.ok h2 h3 a
    · cases h
  | .fld i fl, e, h => by
    unfold chkX at h
    split at h
    · simp only [Bool.and_eq_true, beq_iff_eq] at h
      obtain ⟨h1, rfl⟩ := h
      obtain ⟨a, b, q⟩ := loc_of cx h1
      exact sx_fld ok.ok a b q
    · cases h
  | .aat i k, e, h => by
    unfold chkX at h
    split at h
    · simp only [Bool.and_eq_true, beq_iff_eq] at h
      obtain ⟨h1, rfl⟩ := h
      obtain ⟨a, b, q⟩ := loc_of cx h1
      exact sx_aat ok.ok a b q
    · cases h
  | .bin o a b, e, h => by
    unfold chkX at h
    split at h
    · simp only [Bool.and_eq_true] at h
      rw [bop_of h.1.1]
      exact sx_bin (chkX_sound cx ok hV hΦ a _ h.1.2) (chkX_sound cx ok hV hΦ b _ h.2)
    · cases h
  | .cmp o a b, e, h => by
    unfold chkX at h
    split at h
    · simp only [Bool.and_eq_true] at h
      rw [cop_of h.1.1]
      exact sx_cmp (chkX_sound cx ok hV hΦ a _ h.1.2) (chkX_sound cx ok hV hΦ b _ h.2)
    · cases h
  | .neg a, e, h => by
    unfold chkX at h
    split at h
    · exact sx_neg (chkX_sound cx ok hV hΦ a _ h)
    · cases h
  | .notv a, e, h => by
    unfold chkX at h
    split at h
    · exact sx_not (chkX_sound cx ok hV hΦ a _ h)
    · cases h
  | .andv a b, e, h => by
    unfold chkX at h
    split at h
    · simp only [Bool.and_eq_true] at h
      exact sx_and (chkX_sound cx ok hV hΦ a _ h.1) (chkX_sound cx ok hV hΦ b _ h.2)
    · cases h
  | .orv a b, e, h => by
    unfold chkX at h
    split at h
    · simp only [Bool.and_eq_true] at h
      exact sx_or (chkX_sound cx ok hV hΦ a _ h.1) (chkX_sound cx ok hV hΦ b _ h.2)
    · cases h
  | .inset n a b, e, h => by
    unfold chkX at h
    split at h
    · simp only [Bool.and_eq_true] at h
      rw [in_of h.1.1.1]
      exact sx_inset ok.ok (chkX_sound cx ok hV hΦ a _ h.1.1.2) (chkX_sound cx ok hV hΦ b _ h.1.2) (marks_set h.2)
    · cases h
  | .inl a cs, e, h => by
    unfold chkX at h
    split at h
    · simp only [Bool.and_eq_true, decide_eq_true_eq] at h
      exact sx_inl (chkX_sound cx ok hV hΦ a _ h.1.1) (consts_sxs (constsAre_of h.1.2)) h.2
    · cases h
  | .idx a b, e, h => by
    unfold chkX at h
    split at h
    · simp only [Bool.and_eq_true] at h
      exact sx_idx (chkX_sound cx ok hV hΦ a _ h.1.1) (chkX_sound cx ok hV hΦ b _ h.1.2) h.2
    · cases h
  | .slc a lo hi, e, h => by
    unfold chkX at h
    split at h
    · rename_i v l hh sp pos
      simp only [Bool.and_eq_true] at h
      refine sx_slc (chkX_sound cx ok hV hΦ a _ h.1.1) ?_ ?_
      · cases l with
        | none => exact none_of h.1.2
        | some l => exact chkX_sound cx ok hV hΦ lo _ h.1.2
      · cases hh with
        | none => exact none_of h.2
        | some l => exact chkX_sound cx ok hV hΦ hi _ h.2
    · cases h
  | .len a, e, h => by
    unfold chkX at h
    split at h
    · simp only [Bool.and_eq_true, beq_iff_eq] at h
      obtain ⟨⟨⟨rfl, h2⟩, h3⟩, h4⟩ := h
      exact sx_len ok.ok (chkX_sound cx ok hV hΦ a _ h3) h4 (glb_of cx h2).1
    · cases h
  | .ord a, e, h => by
    unfold chkX at h
    split at h
    · simp only [Bool.and_eq_true, beq_iff_eq] at h
      obtain ⟨⟨⟨rfl, h2⟩, h3⟩, h4⟩ := h
      exact sx_ord ok.ok (chkX_sound cx ok hV hΦ a _ h3) h4 (glb_of cx h2).1
    · cases h
  | .min a b, e, h => by
    unfold chkX at h
    split at h
    · simp only [Bool.and_eq_true, beq_iff_eq] at h
      obtain ⟨⟨⟨⟨⟨rfl, h2⟩, h3⟩, h4⟩, h5⟩, h6⟩ := h
      exact sx_min ok.ok (chkX_sound cx ok hV hΦ a _ h3) (chkX_sound cx ok hV hΦ b _ h5) h4 h6 (glb_of cx h2).1
    · cases h
  | .isStr a, e, h => by
    unfold chkX at h
    split at h
    · simp only [Bool.and_eq_true, beq_iff_eq] at h
      obtain ⟨⟨⟨⟨⟨rfl, rfl⟩, h3⟩, h4⟩, h5⟩, h6⟩ := h
      exact sx_isStr ok.ok (chkX_sound cx ok hV hΦ a _ h5) h6 (glb_of cx h3).1 (glb_of cx h4).1
    · cases h
  | .anyV a, e, h => by
    unfold chkX at h
    split at h
    · simp only [Bool.and_eq_true, beq_iff_eq] at h
      obtain ⟨⟨⟨⟨⟨⟨⟨⟨⟨⟨⟨rfl, h2⟩, h3⟩, h4⟩, rfl⟩, rfl⟩, h7⟩, h8⟩, h9⟩, h10⟩, h11⟩, h12⟩ := h
      exact sx_anyV ok hV (chkX_sound cx ok hV hΦ a _ h3) h4 (glb_of cx h2).1 h7 h8 h9 h10 (by unfold nodbg at h11; simpa using h11) h12
    · cases h
  | .endsw a b, e, h => by
    unfold chkX at h
    split at h
    · simp only [Bool.and_eq_true, beq_iff_eq] at h
      obtain ⟨⟨⟨⟨⟨rfl, h2⟩, h3⟩, h4⟩, h5⟩, h6⟩ := h
      exact sx_endsw (chkX_sound cx ok hV hΦ a _ h2) (chkX_sound cx ok hV hΦ b _ h3) h4 h5 (by rw [h6]; exact beq_self_eq_true _)
    · cases h
  | .call i as, e, h => by
    unfold chkX at h
    split at h
    · simp only [Bool.and_eq_true] at h
      obtain ⟨⟨h1, h2⟩, h3⟩ := h
      split at h1
      · rename_i b y fa q
        simp only [Bool.and_eq_true, beq_iff_eq, Bool.not_eq_true'] at h1
        obtain ⟨rfl, rfl⟩ := h1
        exact sx_def ok hΦ q (chkXs_sound cx ok hV hΦ as _ h3) (glb_of cx h2).1 (glb_of cx h2).2
      · cases h1
    · cases h
  | .meth i j as, e, h => by
    unfold chkX at h
    split at h
    · simp only [Bool.and_eq_true] at h
      obtain ⟨⟨⟨⟨h1, h2⟩, h3⟩, h4⟩, h5⟩ := h
      split at h1
      · rename_i b y fa q
        simp only [Bool.and_eq_true, beq_iff_eq] at h1
        obtain ⟨rfl, rfl⟩ := h1
        obtain ⟨a, b, z⟩ := loc_of cx h2
        exact sx_meth ok hΦ q (chkXs_sound cx ok hV hΦ as _ h3) a b z h4 (of_decide_eq_true h5)
      · cases h1
    · cases h
  | .new i, e, h => by
    unfold chkX at h
    split at h
    · simp only [Bool.and_eq_true, beq_iff_eq, decide_eq_true_eq] at h
      obtain ⟨⟨rfl, h2⟩, rfl⟩ := h
      exact sx_new ok hΦ (glb_of cx h2).1
    · cases h
  | .tup as, e, h => by
    unfold chkX at h
    split at h
    · simp only [Bool.and_eq_true, decide_eq_true_eq] at h
      exact sx_tup (chkXs_sound cx ok hV hΦ as _ h.1) h.2
    · cases h
  | .list as, e, h => by
    unfold chkX at h
    split at h
    · simp only [Bool.and_eq_true, decide_eq_true_eq] at h
      exact sx_list (chkXs_sound cx ok hV hΦ as _ h.1) h.2
    · cases h
theorem chkXs_sound (cx : CxOk c f) (ok : OkF W) (hV : VowFn W) (hΦ : SPhi W d Φ) : ∀ (xs : Xs) (es : List Expr), chkXs c xs es = true → SXs W d f A Φ es xs
  | .nil, es, h => by
    unfold chkXs at h
    split at h
    · exact .nil
    · cases h
  | .cons a r, es, h => by
    unfold chkXs at h
    split at h
    · simp only [Bool.and_eq_true] at h
      exact .cons (chkX_sound cx ok hV hΦ a _ h.1.1) h.1.2 (chkXs_sound cx ok hV hΦ r _ h.2)
    · cases h
end

theorem chkT_sound (cx : CxOk c f) (ok : OkF W) (hV : VowFn W) (hΦ : SPhi W d Φ) : ∀ (t : T) (e : Expr), chkT c t e = true → ST W d f A Φ e t
  | .x a, e, h => by
    unfold chkT at h
    simp only [Bool.and_eq_true] at h
    have q := chkX_sound (A := A) cx ok hV hΦ a e h.1
    have h2 := h.2
    split at h2
    · exact st_cmp q
    · exact st_x q h2
  | .not a, e, h => by
    unfold chkT at h
    split at h
    · exact st_not (chkT_sound cx ok hV hΦ a _ h)
    · cases h
  | .tt, e, h => by
    unfold chkT at h
    split at h
    · exact st_tt
    · cases h
  | .ff, e, h => by
    unfold chkT at h
    split at h
    · exact st_ff
    · cases h
  | .and a b, e, h => by
    unfold chkT at h
    split at h
    · simp only [Bool.and_eq_true] at h
      exact st_and (chkT_sound cx ok hV hΦ a _ h.1) (chkT_sound cx ok hV hΦ b _ h.2)
    · cases h
  | .or a b, e, h => by
    unfold chkT at h
    split at h
    · simp only [Bool.and_eq_true] at h
      exact st_or (chkT_sound cx ok hV hΦ a _ h.1) (chkT_sound cx ok hV hΦ b _ h.2)
    · cases h
end
end Mine
end

section
open PySem PySem.W PySem.Calls PyProof.Rows
set_option Elab.async false
set_option maxRecDepth 100000
set_option linter.unusedVariables false
namespace Mine

def augOk : Bop → Bool
  | .add => true | .sub => true | _ => false
theorem aug_of {o : Bop} (h : augOk o = true) : o = .add ∨ o = .sub := by cases o <;> first | exact .inl rfl | exact .inr rfl | cases h
def isLo (c : Cx) (i : Nat) (x : Str) : Bool := c.nm[i]? == some x && c.names.lookup x == some .local
mutual
def chkS (c : Cx) : S → Stmt → Bool
  | .skip, st => match st with | .Pass _ => true | _ => false
  | .seq _ _, _ => false
  | .asg i a, st => match st with | .Assign [.Name x _] e _ => isLo c i x && chkX c a e && noComp e | _ => false
  | .asg2 i j a, st => match st with | .Assign [.Tuple [.Name x _, .Name y _] _ _] e _ => isLo c i x && isLo c j y && chkX c a e && noComp e && noTup e | _ => false
  | .aug i o a, st => match st with | .AugAssign (.Name x _) p e _ => isLo c i x && bopIs o p && augOk o && chkX c a e | _ => false
  | .setf i fl a, st => match st with | .Assign [.Attribute (.Name x _) y _] e _ => isLoc c i x && y == fl.name && chkX c a e && noComp e | _ => false
  | .augf i fl o a, st => match st with | .AugAssign (.Attribute (.Name x _) y _) p e _ => isLoc c i x && y == fl.name && bopIs o p && augOk o && chkX c a e | _ => false
  | .ife t a b, st => match st with | .If e b1 b2 _ => chkT c t e && chkL c a b1 && chkL c b b2 | _ => false
  | .whl t a, st => match st with | .While e b [] _ => chkT c t e && chkL c a b | _ => false
  | .forx i a b, st => match st with | .For (.Name x _) e body [] _ => isLo c i x && chkX c a e && noSet e && chkL c b body | _ => false
  | .forr i lo hi dn b, st => match st with
    | .For (.Name x _) (.Call (.Name r _) [e₁, e₂] [] _) body [] _ => !dn && isLo c i x && r == ("range" : Str) && isGlb c r && chkX c lo e₁ && chkX c hi e₂ && noStar e₁ && noStar e₂ && chkL c b body
    | .For (.Name x _) (.Call (.Name r _) [e₁, e₂, .UnaryOp .USub (.Constant (.int k) _ _) _] [] _) body [] _ => dn && isLo c i x && r == ("range" : Str) && isGlb c r && chkX c lo e₁ && chkX c hi e₂ && noStar e₁ && noStar e₂ && chkL c b body && decide (k = 1)
    | _ => false
  | .ret a, st => match st with | .Return (some e) _ => chkX c a e | .Return none _ => isNoneX a | _ => false
  | .brk, st => match st with | .Break _ => true | _ => false
  | .cont, st => match st with | .Continue _ => true | _ => false
  | .expr a, st => match st with | .Expr e _ => chkX c a e && noComp e | _ => false
  | .asrt t, st => match st with | .Assert e _ _ => chkT c t e | _ => false
  | .tryx k a, st => match st with | .Try b [.ExceptHandler (some (.Name x _)) none [.Pass _] _] [] [] _ => chkL c a b && x == labName k && isGlb c x | _ => false
  | .raise k, st => match st with | .Raise (some (.Call (.Name x _) [] [] _)) none _ => x == labName k && isGlb c x | _ => false
def chkL (c : Cx) : S → List Stmt → Bool
  | .skip, l => match l with | [] => true | _ => false
  | .seq a b, l => match l with | st :: r => chkS c a st && chkL c b r | _ => false
  | _, _ => false
end

section
variable {W : Wd} {d : Nat} {f : FC} {A : Around} {Φ : Nat → List V → Sta → Option (V × Sta)} {c : Cx}
theorem lo_of (h : CxOk c f) {i : Nat} {x : Str} (q : isLo c i x = true) : f.nm[i]? = some x ∧ f.scope.names.lookup x = some .local := by
  unfold isLo at q
  simp only [Bool.and_eq_true, beq_iff_eq] at q
  rw [h.nm, h.names]
  exact q
mutual
theorem chkS_sound (cx : CxOk c f) (hnd : f.nm.Nodup) (ok : OkF W) (hV : VowFn W) (hΦ : SPhi W d Φ) : ∀ (s : S) (st : Stmt), chkS c s st = true → SS1 W d f A Φ st s
  | .skip, st, h => by
    unfold chkS at h
    split at h
    · exact ss_pass
    · cases h
  | .seq _ _, st, h => by unfold chkS at h; cases h
  | .asg i a, st, h => by
    unfold chkS at h
    split at h
    · simp only [Bool.and_eq_true] at h
      obtain ⟨a1, a2⟩ := lo_of cx h.1.1
      exact ss_asg (chkX_sound cx ok hV hΦ a _ h.1.2) h.2 a1 hnd a2
    · cases h
  | .asg2 i j a, st, h => by
    unfold chkS at h
    split at h
    · simp only [Bool.and_eq_true] at h
      obtain ⟨⟨⟨⟨h1, h2⟩, h3⟩, h4⟩, h5⟩ := h
      obtain ⟨a1, a2⟩ := lo_of cx h1
      obtain ⟨b1, b2⟩ := lo_of cx h2
      exact ss_asg2 (chkX_sound cx ok hV hΦ a _ h3) h4 h5 a1 b1 hnd a2 b2
    · cases h
  | .aug i o a, st, h => by
    unfold chkS at h
    split at h
    · simp only [Bool.and_eq_true] at h
      obtain ⟨⟨⟨h1, h2⟩, h3⟩, h4⟩ := h
      obtain ⟨a1, a2⟩ := lo_of cx h1
      rw [bop_of h2]
      exact ss_aug (chkX_sound cx ok hV hΦ a _ h4) (aug_of h3) a1 hnd a2
    · cases h
  | .setf i fl a, st, h => by
    unfold chkS at h
    split at h
    · simp only [Bool.and_eq_true, beq_iff_eq] at h
      obtain ⟨⟨⟨h1, rfl⟩, h3⟩, h4⟩ := h
      obtain ⟨a1, a2, a3⟩ := loc_of cx h1
      exact ss_setf ok.ok (chkX_sound cx ok hV hΦ a _ h3) h4 a1 a2 a3
    · cases h
  | .augf i fl o a, st, h => by
    unfold chkS at h
    split at h
    · simp only [Bool.and_eq_true, beq_iff_eq] at h
      obtain ⟨⟨⟨⟨h1, rfl⟩, h3⟩, h4⟩, h5⟩ := h
      obtain ⟨a1, a2, a3⟩ := loc_of cx h1
      rw [bop_of h3]
      exact ss_augf ok.ok (chkX_sound cx ok hV hΦ a _ h5) (aug_of h4) a1 a2 a3
    · cases h
  | .ife t a b, st, h => by
    unfold chkS at h
    split at h
    · simp only [Bool.and_eq_true] at h
      exact ss_if (chkT_sound cx ok hV hΦ t _ h.1.1) (chkL_sound cx hnd ok hV hΦ a _ h.1.2) (chkL_sound cx hnd ok hV hΦ b _ h.2)
    · cases h
  | .whl t a, st, h => by
    unfold chkS at h
    split at h
    · simp only [Bool.and_eq_true] at h
      exact ss_whl (chkT_sound cx ok hV hΦ t _ h.1) (chkL_sound cx hnd ok hV hΦ a _ h.2)
    · cases h
  | .forx i a b, st, h => by
    unfold chkS at h
    split at h
    · simp only [Bool.and_eq_true] at h
      obtain ⟨⟨⟨h1, h2⟩, h3⟩, h4⟩ := h
      obtain ⟨a1, a2⟩ := lo_of cx h1
      exact ss_forx (chkX_sound cx ok hV hΦ a _ h2) (chkL_sound cx hnd ok hV hΦ b _ h4) h3 a1 hnd a2
    · cases h
  | .forr i lo hi dn b, st, h => by
    unfold chkS at h
    split at h
    · simp only [Bool.and_eq_true, beq_iff_eq, Bool.not_eq_true'] at h
      obtain ⟨⟨⟨⟨⟨⟨⟨⟨rfl, h1⟩, rfl⟩, h3⟩, h4⟩, h5⟩, h6⟩, h7⟩, h8⟩ := h
      obtain ⟨a1, a2⟩ := lo_of cx h1
      exact ss_forr_up ok.ok (chkX_sound cx ok hV hΦ lo _ h4) (chkX_sound cx ok hV hΦ hi _ h5) h6 h7 (chkL_sound cx hnd ok hV hΦ b _ h8) a1 hnd a2 (glb_of cx h3).1
    · simp only [Bool.and_eq_true, beq_iff_eq, decide_eq_true_eq] at h
      obtain ⟨⟨⟨⟨⟨⟨⟨⟨⟨rfl, h1⟩, rfl⟩, h3⟩, h4⟩, h5⟩, h6⟩, h7⟩, h8⟩, rfl⟩ := h
      obtain ⟨a1, a2⟩ := lo_of cx h1
      exact ss_forr_down ok.ok (chkX_sound cx ok hV hΦ lo _ h4) (chkX_sound cx ok hV hΦ hi _ h5) h6 h7 (chkL_sound cx hnd ok hV hΦ b _ h8) a1 hnd a2 (glb_of cx h3).1
    · cases h
  | .ret a, st, h => by
    unfold chkS at h
    split at h
    · exact ss_ret (chkX_sound cx ok hV hΦ a _ h)
    · rw [none_of h]; exact ss_ret0
    · cases h
  | .brk, st, h => by
    unfold chkS at h
    split at h
    · exact ss_brk
    · cases h
  | .cont, st, h => by
    unfold chkS at h
    split at h
    · exact ss_cont
    · cases h
  | .expr a, st, h => by
    unfold chkS at h
    split at h
    · simp only [Bool.and_eq_true] at h
      exact ss_expr (chkX_sound cx ok hV hΦ a _ h.1) h.2
    · cases h
  | .asrt t, st, h => by
    unfold chkS at h
    split at h
    · exact ss_asrt (chkT_sound cx ok hV hΦ t _ h)
    · cases h
  | .tryx k a, st, h => by
    unfold chkS at h
    split at h
    · simp only [Bool.and_eq_true, beq_iff_eq] at h
      exact ss_try ok (chkL_sound cx hnd ok hV hΦ a _ h.1.1) h.1.2 (glb_of cx h.2).1 (glb_of cx h.2).2
    · cases h
  | .raise k, st, h => by
    unfold chkS at h
    split at h
    · simp only [Bool.and_eq_true, beq_iff_eq] at h
      exact ss_raise ok h.1 (glb_of cx h.2).1 (glb_of cx h.2).2
    · cases h
theorem chkL_sound (cx : CxOk c f) (hnd : f.nm.Nodup) (ok : OkF W) (hV : VowFn W) (hΦ : SPhi W d Φ) : ∀ (s : S) (l : List Stmt), chkL c s l = true → SSL W d f A Φ l s
  | .skip, l, h => by
    unfold chkL at h
    split at h
    · exact ss_nil
    · cases h
  | .seq a b, l, h => by
    unfold chkL at h
    split at h
    · simp only [Bool.and_eq_true] at h
      exact ss_cons (chkS_sound cx hnd ok hV hΦ a _ h.1) (chkL_sound cx hnd ok hV hΦ b _ h.2)
    · cases h
  | .asg .., l, h => by unfold chkL at h; cases h
  | .asg2 .., l, h => by unfold chkL at h; cases h
  | .aug .., l, h => by unfold chkL at h; cases h
  | .setf .., l, h => by unfold chkL at h; cases h
  | .augf .., l, h => by unfold chkL at h; cases h
  | .ife .., l, h => by unfold chkL at h; cases h
  | .whl .., l, h => by unfold chkL at h; cases h
  | .forx .., l, h => by unfold chkL at h; cases h
  | .forr .., l, h => by unfold chkL at h; cases h
  | .ret .., l, h => by unfold chkL at h; cases h
  | .brk, l, h => by unfold chkL at h; cases h
  | .cont, l, h => by unfold chkL at h; cases h
  | .expr .., l, h => by unfold chkL at h; cases h
  | .asrt .., l, h => by unfold chkL at h; cases h
  | .tryx .., l, h => by unfold chkL at h; cases h
  | .raise .., l, h => by unfold chkL at h; cases h
end
end
end Mine
end

section
open PySem PySem.W PySem.Calls PyProof.Rows
set_option Elab.async false
set_option maxRecDepth 100000
set_option linter.unusedVariables false
namespace Mine

/-- a def of the top: its object, its text as the small language has it -/
structure FnIs (W : Wd) (fa : Addr) (np nl : Nat) (b : S) : Prop where
  shape : ∃ (name qual : Str) (params : Arguments) (body : List Stmt) (scope : Scope) (dV kV doc pm : Value) (an : Option Addr) (cdv ct oc : Value) (od : Option Addr) (osl : Array (Option Value)) (nm : List Str),
    W.K.lookup fa = some ⟨oc, od, .func (fnOf name qual params body scope dV kV doc pm an cdv ct), osl⟩ ∧ codeIn W.K cdv qual = true ∧ scope.kind = .function ∧ scope.isCoroutine = false ∧ scope.isGenerator = false ∧
    (∀ x ∈ scope.names, x.2 ≠ .cell) ∧ (∀ s vals, vals.length = np → BindsTo s (fnOf name qual params body scope dV kV doc pm an cdv ct) ⟨vals, []⟩ ((nm.take np).zip vals)) ∧
    nm.Nodup ∧ nm.length = nl ∧ np ≤ nl ∧ (∀ x ∈ nm.take np, scope.names.lookup x = some .local) ∧ chkL ⟨nm, scope.names⟩ b body = true

theorem lookup_mem {α β : Type} [BEq α] [LawfulBEq α] : ∀ {l : List (α × β)} {x : α} {v : β}, (l.map (·.1)).Nodup → (x, v) ∈ l → l.lookup x = some v
  | (y, u) :: r, x, v, hn, hm => by
    rw [List.lookup_cons]
    rw [List.map_cons, List.nodup_cons] at hn
    cases hm with
    | head => simp
    | tail _ hm =>
      have : (x == y) = false := beq_eq_false_iff_ne.mpr fun e => hn.1 (e ▸ List.mem_map.mpr ⟨(x, v), hm, rfl⟩)
      rw [this]
      exact lookup_mem hn.2 hm

section
variable {W : Wd} {d : Nat} {f : FC} {A A' : Around} {Φ : Nat → List V → Sta → Option (V × Sta)}

theorem zip_at {nm : List Str} {np : Nat} {vals : List Value} (hn : nm.Nodup) (hl : vals.length = np) (hle : np ≤ nm.length) {i : Nat} {x : Str} {val : Value} (h1 : nm[i]? = some x) (h2 : vals[i]? = some val) : ((nm.take np).zip vals).reverse.lookup x = some val := by
  have hi : i < np := by rw [← hl]; exact (List.getElem?_eq_some_iff.mp h2).1
  have hfst : ((nm.take np).zip vals).map (·.1) = nm.take np := by
    rw [List.map_fst_zip]
    rw [List.length_take, hl]; omega
  refine lookup_mem ?_ ?_
  · rw [List.map_reverse, hfst]
    exact List.pairwise_reverse.mpr ((List.Pairwise.sublist (List.take_sublist _ _) hn).imp fun h => Ne.symm h)
  · rw [List.mem_reverse]
    refine List.mem_of_getElem? (i := i) ?_
    rw [List.getElem?_zip_eq_some]
    exact ⟨by rw [List.getElem?_take, if_pos hi]; exact h1, h2⟩

theorem At.lt_x {s : Shared} {ρ : List V} {σ : Sta} {g : G} (a : At W d f A s ρ σ g) {x dx : Addr} (hg : g = some (x, dx)) : ∃ st es n, σ = some st ∧ s.heap.get? x = some (instObj 527 dx) ∧ s.heap.get? dx = some (dictOf es n) := by
  cases σ with
  | none => rw [a.sr.non.mp rfl] at hg; cases hg
  | some st =>
    obtain ⟨q1, q2, q3, q4, es, n, q5, q6⟩ := a.sr.some st x dx rfl hg
    exact ⟨st, es, n, rfl, q4, q5⟩

theorem at_enter {s : Shared} {ρ : List V} {σ : Sta} {g : G} (a : At W (d + 1) f A s ρ σ g) (N : Near A A') {qual : Str} {scope : Scope} {fa : Addr} {cdv : Value} {nm : List Str} {np : Nat} {vs : List V} {vals : List Value} (hnd : nm.Nodup) (hle : np ≤ nm.length) (hv : vs.length = np)
    (r : RvL W.K g s.heap vs vals) (hk : scope.kind = .function) {h₀ : Heap} {tk : Nat} (hns : h₀.Ns s.heap.objs.size (fun x => ((nm.take np).zip vals).reverse.lookup x)) (k₀ : ∀ b o, s.heap.get? b = some o → h₀.get? b = some o) :
    At W d ⟨qual, scope, s.heap.objs.size, fa, cdv, f.env :: f.outer, nm⟩ (A'.deeper (envOf qual scope s.heap.objs.size fa cdv)) { s with heap := h₀, toks := tk } (vs ++ List.replicate (nm.length - np) .undef) σ g := by
  obtain ⟨m, F, l⟩ := a.fr
  obtain ⟨oL, esL, epL, hL, hLd, rL⟩ := F.ns
  have hLs : f.L < s.heap.objs.size := Heap.lt_size hL
  refine { fr := ⟨_, ⟨hns, fun b o e => k₀ b o (F.keep b o e), Nat.le_trans F.above (Nat.le_of_lt hLs)⟩, ?_⟩, len := ?_, fo := ?_, sr := sr_grow a.sr k₀, off := ?_, gens := a.gens, os := a.os, kind := hk, handled := N.handled, frames := ?_, depth := ?_, units := ?_ }
  · intro i x v h1 h2 h3
    by_cases hi : i < np
    · rw [List.getElem?_append_left (by omega)] at h2
      obtain ⟨val, hval⟩ : ∃ val, vals[i]? = some val := ⟨vals[i]'(by rw [r.len]; omega), List.getElem?_eq_getElem _⟩
      exact ⟨val, zip_at hnd (by rw [r.len]; exact hv) hle h1 hval, (r.at i v val h2 hval).ext (ext_grow none k₀) (.refl g)⟩
    · rw [List.getElem?_append_right (by omega)] at h2
      have := List.mem_of_getElem? h2
      exact absurd (List.eq_of_mem_replicate this) h3
  · show _ = nm.length
    rw [List.length_append, List.length_replicate]; omega
  · intro e he
    cases he with
    | head =>
      refine ⟨?_, f.L, oL, rfl, none_of_size F.above, Nat.ne_of_lt hLs, fun x dx hg => (a.off x dx hg).2, k₀ _ _ hL, esL, epL, hLd⟩
      show f.scope.kind ≠ .module
      rw [a.kind]; intro q; cases q
    | tail _ he =>
      obtain ⟨q1, Lf, o, q2, q3, q4, q5, q6, q7⟩ := a.fo e he
      exact ⟨q1, Lf, o, q2, q3, Nat.ne_of_lt (Heap.lt_size q6), q5, k₀ _ _ q6, q7⟩
  · intro x dx hg
    obtain ⟨st, es, n, _, e1, e2⟩ := a.lt_x hg
    exact ⟨Nat.ne_of_lt (Heap.lt_size e1), Nat.ne_of_lt (Heap.lt_size e2)⟩
  · show A'.frames.map _ = _
    rw [N.frames, a.frames]; rfl
  · have := a.depth; have := N.depth
    show A'.depth + 1 + 4 * d + 8 ≤ 1000
    omega
  · have := a.units; have := N.units
    show A'.units + 3 + 16 * d + 64 ≤ 9900
    omega

theorem at_back {s s' : Shared} {ρ ρ' : List V} {σ σ' : Sta} {g g' : G} (a : At W (d + 1) f A s ρ σ g) {qual : Str} {scope : Scope} {fa : Addr} {cdv : Value} {nm : List Str} {A₂ : Around} {h₀ : Heap} (k₀ : ∀ b o, s.heap.get? b = some o → h₀.get? b = some o)
    (b : At W d ⟨qual, scope, s.heap.objs.size, fa, cdv, f.env :: f.outer, nm⟩ A₂ s' ρ' σ' g') (ex : ExtS s.heap.objs.size g' h₀ s'.heap) (gl : G.le g g') : At W (d + 1) f A s' ρ σ' g' ∧ Ext g' s.heap s'.heap := by
  have kp : ∀ b o, s.heap.get? b = some o → keepD o.data = true → s'.heap.get? b = some o := fun b o e k => ex.seq b o (k₀ b o e) k
  have kd : ∀ b o, s.heap.get? b = some o → (∀ x, g' ≠ some (x, b)) → ∃ sl, s'.heap.get? b = some { o with slots := sl } := fun b o e n => ex.dic b o (k₀ b o e) (Nat.ne_of_lt (Heap.lt_size e)) n
  obtain ⟨m, F, l⟩ := a.fr
  obtain ⟨oL, esL, epL, hL, hLd, rL⟩ := F.ns
  obtain ⟨z1, Lf, o, z2, z3, z4, z5, z6, es7, n7, z7⟩ := b.fo f.env (.head _)
  cases z2
  obtain ⟨sl, hL'⟩ := kd f.L oL hL fun x e => z5 x _ e rfl
  obtain ⟨m', F', _⟩ := b.fr
  refine ⟨{ fr := ⟨m, ⟨⟨_, esL, epL, hL', hLd, rL⟩, F'.keep, F.above⟩, fun i x v h1 h2 h3 => let ⟨val, q, r⟩ := l i x v h1 h2 h3; ⟨val, q, r.keep kp gl⟩⟩, len := a.len, fo := ?_, sr := b.sr, off := ?_, gens := b.gens, os := b.os, kind := a.kind, handled := a.handled, frames := a.frames, depth := a.depth, units := a.units }, ⟨kp, kd⟩⟩
  · intro e he
    obtain ⟨q1, Lf, o, q2, q3, q4, q5, q6, q7⟩ := b.fo e (.tail _ he)
    obtain ⟨w1, Lf', o', w2, w3, w4, _⟩ := a.fo e he
    rw [q2] at w2
    cases w2
    exact ⟨q1, Lf, o, q2, q3, w4, q5, q6, q7⟩
  · intro x dx hg
    obtain ⟨st, es, n, _, e1, e2⟩ := b.lt_x hg
    refine ⟨fun q => ?_, fun q => z5 x dx hg q⟩
    rw [q, hL'] at e1
    have e3 := congrArg (fun o => o.map (·.data)) e1
    dsimp only [Option.map_some] at e3
    rw [hLd] at e3
    cases e3

theorem fn_sound (ok : OkF W) (hV : VowFn W) {fa : Addr} {np nl : Nat} {b : S} (hF : FnIs W fa np nl b) (hΦ : SPhi W d Φ) {vs : List V} {vals : List Value} {v : V} {σ σ' : Sta} {s : Shared} {ρ : List V} {g : G}
    (a : At W (d + 1) f A s ρ σ g) (N : Near A A') (r : RvL W.K g s.heap vs vals) (hv : vs.length = np) (h : retOf (exec Φ b (vs ++ List.replicate (nl - np) .undef) σ) = some (v, σ')) {Q : Value → Shared → Prop} {R : Result → Shared → Prop} (P : PostX W (d + 1) f A s ρ g v σ' Q)
    (hR : ∀ val s', Q val s' → R (.ok (.ret val)) s') : codeAny (model W.p W.w) A' (.call (.ref fa) ⟨vals, []⟩) R s := by
  obtain ⟨name, qual, params, body, scope, dV, kV, doc, pm, an, cdv, ct, oc, od, osl, nm, q1, q2, q3, q4, q5, q6, q7, q8, q9, q10, q11, q12⟩ := hF.shape
  obtain ⟨m, F, l⟩ := a.fr
  have X := ok.ok.X.keeps F.keep
  have hlen : vals.length = np := by rw [r.len]; exact hv
  refine codeAny_call_def (binds := (nm.take np).zip vals) (by have := a.depth; have := N.depth; show A'.depth < 1000; omega) (X _ _ q1) rfl (ok.ok.T.nolimit.keeps F.keep) (codeRec_of X q2) rfl (q7 _ _ hlen) q6 (fun y hy => ?_) (fun h₀ hns k₀ => ?_) q4 q5 q3
  · exact q11 y.1 (List.of_mem_zip hy).1
  · have hle : np ≤ nm.length := by rw [q9]; exact q10
    have b := at_enter (A' := A') (qual := qual) (scope := scope) (fa := fa) (cdv := cdv) (tk := s.toks + ((nm.take np).zip vals).length) a N q8 hle hv r q3 hns k₀
    rw [q9] at b
    cases he : exec Φ ‹S› (vs ++ List.replicate (nl - np) .undef) σ with
    | none => rw [he] at h; cases h
    | some out =>
      obtain ⟨fl, ρ', σ₁⟩ := out
      rw [he] at h
      refine chkL_sound (f := ⟨qual, scope, s.heap.objs.size, fa, cdv, f.env :: f.outer, nm⟩) ⟨rfl, rfl⟩ q8 ok hV hΦ _ body q12 _ _ σ g fl ρ' σ₁ b he _ _ ?_
      cases fl with
      | ret u =>
        cases h
        intro s' g' val b' ex gl rv
        obtain ⟨a', ex'⟩ := at_back a k₀ b' ex gl
        exact hR val s' (P val s' g' a' ex' gl rv)
      | next =>
        cases h
        intro s' g' b' ex gl
        obtain ⟨a', ex'⟩ := at_back a k₀ b' ex gl
        exact hR .none s' (P .none s' g' a' ex' gl .none)
      | brk => cases h
      | cont => cases h
      | exc k => cases h
end
end Mine
end

section
open PySem PySem.W PySem.Calls PyProof.Rows
set_option Elab.async false
set_option maxRecDepth 100000
set_option linter.unusedVariables false
namespace Mine

/-- the text of _law_marked, its places left open -/
inductive MarkBody : List Stmt → Prop where
  | mk {p1 lp q1 p2 p3 p4 p5 p6 p7 p8 p9 p10 p11 p12 p13 p14 p15 p16 p17 ap1 p18 cp1 q2 p19 ap2 p20 cp2 q3 q4 q5 p21 q6 : Pos} {k1 k2 k3 : Nat} (h1 : (ap1.endLine == cp1.line) = true) (h2 : (ap2.endLine == cp2.line) = true) :
    MarkBody [.Assign [.Name "out" p1] (.List [] lp) q1,
      .For (.Name "sign" p2) (.Name "text" p3) [.If (.BoolOp .And [.Compare (.Name "sign" p4) [.Eq] [.Constant (.str (strOf [121])) k1 p5] p6, .BoolOp .Or [.UnaryOp .Not (.Name "out" p7) p8, .Call (.Name "_law_vowel" p9) [.Subscript (.Name "out" p10) (.UnaryOp .USub (.Constant (.int 1) k2 p11) p12) p13] [] p14] p15] p16)
        [.Expr (.Call (.Attribute (.Name "out" p17) "append" ap1) [.Constant (.str (strOf [89])) k3 p18] [] cp1) q2]
        [.Expr (.Call (.Attribute (.Name "out" p19) "append" ap2) [.Name "sign" p20] [] cp2) q3] q4] [] q5,
      .Return (some (.Name "out" p21)) q6]
structure MarkFn (W : Wd) : Prop where
  shape : ∃ (name qual : Str) (params : Arguments) (body : List Stmt) (scope : Scope) (dV kV doc pm : Value) (an : Option Addr) (cdv ct oc : Value) (od : Option Addr) (osl : Array (Option Value)),
    W.K.lookup 638 = some ⟨oc, od, .func (fnOf name qual params body scope dV kV doc pm an cdv ct), osl⟩ ∧ codeIn W.K cdv qual = true ∧ scope.kind = .function ∧ scope.isCoroutine = false ∧ scope.isGenerator = false ∧
    (∀ x ∈ scope.names, x.2 ≠ .cell) ∧ (∀ s v, BindsTo s (fnOf name qual params body scope dV kV doc pm an cdv ct) ⟨[v], []⟩ [("text", v)]) ∧
    scope.names.lookup ("text" : Str) = some .local ∧ scope.names.lookup ("out" : Str) = some .local ∧ scope.names.lookup ("sign" : Str) = some .local ∧ scope.names.lookup ("_law_vowel" : Str) = some .globalImplicit ∧ MarkBody body

def markNm : List Str := ["text", "out", "sign"]
theorem ns_one {h : Heap} {a : Addr} {m m' : Str → Option Value} (x : h.Ns a m) (y : h.Ns a m') : m = m' := by
  obtain ⟨o, es, ep, ho, hd, _, hf⟩ := x
  obtain ⟨o', es', ep', ho', hd', _, hf'⟩ := y
  rw [ho] at ho'; cases ho'
  rw [hd] at hd'; cases hd'
  funext n
  rw [← hf n, hf' n]

section
variable {W : Wd} {d : Nat} {f : FC} {A : Around}

def flatU : V → Bool
  | .undef => true | .str _ => true | _ => false
theorem Rv.flatU {K : Frag} {g g' : G} {h h' : Heap} {v : V} {val : Value} (hf : flatU v = true) (r : Rv K g h v val) : Rv K g' h' v val := by
  cases r <;> first | (cases hf; done) | skip
  rename_i hx
  exact .str _ _ hx

/-- a list of the frame's own has been written -/
theorem At.lst {s : Shared} {ρ : List V} {σ : Sta} {g : G} (a : At W d f A s ρ σ g) (hf : ∀ v ∈ ρ, flatU v = true) {D : Addr} {oD : Obj} {xs : Array Value} {k : Nat} (hD : s.heap.get? D = some oD) (hd : oD.data = .seq xs k) (hb : W.hb.get? D = none) {h' : Heap} {n : Nat}
    (ke : ∀ b o, b ≠ D → s.heap.get? b = some o → h'.get? b = some o) : At W d f A { s with heap := h', toks := n } ρ σ g := by
  have ne : ∀ b o, s.heap.get? b = some o → (∀ vs k, o.data ≠ .seq vs k) → h'.get? b = some o := fun b o e q => ke b o (fun z => by rw [z, hD] at e; cases e; exact q _ _ hd) e
  obtain ⟨m, F, l⟩ := a.fr
  refine { fr := ⟨m, ⟨?_, fun b o e => ke b o (fun z => by rw [z, hb] at e; cases e) (F.keep b o e), F.above⟩, fun j y u x1 x2 x3 => let ⟨w, z1, z2⟩ := l j y u x1 x2 x3; ⟨w, z1, z2.flatU (hf u (List.mem_of_getElem? x2))⟩⟩, len := a.len, fo := ?_, sr := ⟨a.sr.non, ?_⟩, off := a.off, gens := a.gens, os := a.os, kind := a.kind, handled := a.handled, frames := a.frames, depth := a.depth, units := a.units }
  · obtain ⟨oL, es, ep, hL, q, rr⟩ := F.ns
    exact ⟨oL, es, ep, ne _ _ hL (fun vs k z => by rw [q] at z; cases z), q, rr⟩
  · intro e he
    obtain ⟨z1, Lf, o, z2, z3, z4, z5, z6, es, n, z7⟩ := a.fo e he
    exact ⟨z1, Lf, o, z2, z3, z4, z5, ne _ _ z6 (fun vs k z => by rw [z7] at z; cases z), es, n, z7⟩
  · intro st x dx e1 e2
    obtain ⟨q1, q2, q3, q4, es, n, q5, q6⟩ := a.sr.some st x dx e1 e2
    exact ⟨q1, q2, q3, ne _ _ q4 (fun vs k z => by cases z), es, n, ne _ _ q5 (fun vs k z => by cases z), q6⟩

/-- the state of _law_marked's loop -/
structure MS (W : Wd) (d : Nat) (f : FC) (A : Around) (h₀ : Heap) (s : Shared) (σ : Sta) (g : G) (D : Addr) (done : Tx) (tx : Tx) (sg : V) : Prop where
  at_ : At W d f A s [.str tx, .undef, sg] σ g
  out : ∀ m, s.heap.Ns f.L m → m "out" = some (.ref D)
  lst : ∃ items, PlainL s.heap D items ∧ RvL W.K g s.heap (done.reverse.map fun c => .str [c]) items.toList
  hb : W.hb.get? D = none
  h0 : h₀.get? D = none
  ex : ExtS f.L g h₀ s.heap
  sg : flatU sg = true
theorem MS.ext {h₀ : Heap} {s s' : Shared} {σ : Sta} {g : G} {D : Addr} {done tx : Tx} {sg : V} (x : MS W d f A h₀ s σ g D done tx sg) (a : At W d f A s' [.str tx, .undef, sg] σ g) (e : Ext g s.heap s'.heap) : MS W d f A h₀ s' σ g D done tx sg where
  at_ := a
  out := fun m hm => by
    obtain ⟨m0, F, _⟩ := x.at_.fr
    obtain ⟨oL, es, ep, hL, hd, rr⟩ := F.ns
    obtain ⟨sl, hL'⟩ := e.dic _ _ hL fun y q => (x.at_.off y _ q).2 rfl
    have : s'.heap.Ns f.L m0 := ⟨_, es, ep, hL', hd, rr⟩
    rw [ns_one hm this]
    exact x.out m0 F.ns
  lst := by
    obtain ⟨items, ⟨o, n, e1, e2, e3, e4⟩, r⟩ := x.lst
    exact ⟨items, ⟨o, n, e.seq _ _ e1 (by rw [e4]; rfl), e2, e3, e4⟩, r.ext e (.refl g)⟩
  hb := x.hb
  h0 := x.h0
  ex := x.ex.trans (.refl _) e.toS
  sg := x.sg
theorem MS.grow {h₀ : Heap} {s : Shared} {σ : Sta} {g : G} {D : Addr} {done tx : Tx} {sg : V} (x : MS W d f A h₀ s σ g D done tx sg) {h' : Heap} {n : Nat} (k : ∀ b o, s.heap.get? b = some o → h'.get? b = some o) : MS W d f A h₀ { s with heap := h', toks := n } σ g D done tx sg :=
  x.ext (x.at_.grow k) (ext_grow _ k)

theorem MS.ldOut {h₀ : Heap} {s : Shared} {σ : Sta} {g : G} {D : Addr} {done tx : Tx} {sg : V} (x : MS W d f A h₀ s σ g D done tx sg) (hk : f.scope.names.lookup ("out" : Str) = some .local) {p : Pos} {M : Model} {A' : Around} {Q : Value → Shared → Prop} {E : Value → Shared → Prop} (P : Q (.ref D) s) :
    wpAny M A' (eval (.Name "out" p) f.env) Q E s := by
  obtain ⟨m, F, _⟩ := x.at_.fr
  exact ld F (x.out m F.ns) P x.at_.kind hk (by decide)

theorem mark_append {h₀ : Heap} {s : Shared} {σ : Sta} {g : G} {D : Addr} {done tx : Tx} {sg : V} (x : MS W d f A h₀ s σ g D done tx sg) (hz : done.length < 1000000) (hk : f.scope.names.lookup ("out" : Str) = some .local) {p ap cp q : Pos} {e : Expr} {c : Nat} (hl : (ap.endLine == cp.line) = true) (hs : noStar e = true)
    (he : ∀ (Q : Value → Shared → Prop) (E : Value → Shared → Prop), (∀ val s', MS W d f A h₀ s' σ g D done tx sg → (∀ b o, s.heap.get? b = some o → s'.heap.get? b = some o) → (∀ g h, Rv W.K g h (.str [c]) val) → Q val s') → wpAny (model W.p W.w) A (eval e f.env) Q E s) {Q : Flow → Shared → Prop} {E : Value → Shared → Prop}
    (P : ∀ s', MS W d f A h₀ s' σ g D (c :: done) tx sg → (∀ b o, b ≠ D → s.heap.get? b = some o → s'.heap.get? b = some o) → Q .next s') : wpAny (model W.p W.w) A (PySem.exec (.Expr (.Call (.Attribute (.Name "out" p) "append" ap) [e] [] cp) q) f.env) Q E s := by
  have hi : interactive f.env = false := by
    unfold interactive
    have : f.env.scope.kind = .function := x.at_.kind
    rw [this]; rfl
  refine wpAny_Expr_any ?_ hi rfl
  refine wpAny_Call_append rfl (by rw [star_one hs]; rfl) hl (by rw [star_one hs]; rfl) ?_
  refine x.ldOut hk ?_
  obtain ⟨items, pl, r⟩ := x.lst
  refine ⟨D, items, rfl, pl, ?_⟩
  refine he _ E fun val s' x' k rv => ?_
  obtain ⟨items', pl', r'⟩ := x'.lst
  obtain ⟨oD, n, e1, e2, e3, e4⟩ := pl'
  have hsz : items'.size = done.length := by
    have := r'.len
    rw [List.length_map, List.length_reverse] at this
    simpa using this
  refine list_append_plainL (its := items') ⟨oD, n, e1, e2, e3, e4⟩ (fun h' pl'' hs'' => ?_) (by rw [hsz]; exact Nat.le_trans (Nat.le_of_lt hz) (by decide))
  have ke : ∀ b o, b ≠ D → s'.heap.get? b = some o → h'.get? b = some o := fun b o q e => (hs''.2 b q).trans e
  have hfl : ∀ v ∈ [V.str tx, .undef, sg], flatU v = true := fun v hv => by
    rcases List.mem_cons.mp hv with rfl | hv
    · rfl
    · rcases List.mem_cons.mp hv with rfl | hv
      · rfl
      · rcases List.mem_cons.mp hv with rfl | hv
        · exact x.sg
        · cases hv
  have at' := x'.at_.lst hfl e1 e4 x'.hb (n := s'.toks) ke
  refine P _ ?_ fun b o q e => ke b o q (k b o e)
  have kk : ∀ b o, h₀.get? b = some o → b ≠ D := fun b o e q => by rw [q, x'.h0] at e; cases e
  refine { at_ := at', out := fun m hm => ?_, lst := ⟨_, pl'', ?_⟩, hb := x'.hb, h0 := x'.h0, ex := ⟨fun b o e q => ke b o (kk b o e) (x'.ex.seq b o e q), fun b o e q z => let ⟨sl, w⟩ := x'.ex.dic b o e q z; ⟨sl, ke b _ (kk b o e) w⟩⟩, sg := x'.sg }
  · obtain ⟨m0, F, _⟩ := x'.at_.fr
    have hL : f.L ≠ D := fun q => by
      obtain ⟨oL, es, ep, hL, hd, rr⟩ := F.ns
      rw [q, e1] at hL; cases hL
      rw [e4] at hd; cases hd
    have : h'.Ns f.L m0 := by
      obtain ⟨oL, es, ep, hL', hd, rr⟩ := F.ns
      exact ⟨oL, es, ep, ke _ _ hL hL', hd, rr⟩
    rw [ns_one hm this]
    exact x'.out m0 F.ns
  · rw [List.reverse_cons, List.map_append, Array.toList_push]
    have gen : ∀ {vs : List V} {vals : List Value}, (∀ v ∈ vs, ∃ c, v = .str [c]) → RvL W.K g s'.heap vs vals → RvL W.K g h' (vs ++ [.str [c]]) (vals ++ [val]) := by
      intro vs vals hv r
      induction r with
      | nil => exact .cons (rv _ _) .nil
      | cons a b ih =>
        obtain ⟨c', rfl⟩ := hv _ (.head _)
        exact .cons (a.flatU rfl) (ih fun v hv' => hv v (.tail _ hv'))
    exact gen (fun v hv => by obtain ⟨c', _, rfl⟩ := List.mem_map.mp hv; exact ⟨c', rfl⟩) r'
end
end Mine
end

section
open PySem PySem.W PySem.Calls PyProof.Rows
set_option Elab.async false
set_option maxRecDepth 100000
set_option linter.unusedVariables false
namespace Mine
section
variable {W : Wd} {d : Nat} {f : FC} {A : Around}

theorem g_same {s s' : Shared} {ρ ρ' : List V} {σ : Sta} {g g' : G} (a : At W d f A s ρ σ g) (b : At W d f A s' ρ' σ g') (l : G.le g g') : g' = g := by
  cases g with
  | some p => exact l p rfl
  | none => exact b.sr.non.mp (a.sr.non.mpr rfl)

/-- a local is stored; the names are told -/
theorem store_full {s : Shared} {ρ : List V} {σ : Sta} {g : G} (at_ : At W d f A s ρ σ g) {i : Nat} {x : Str} {v : V} {val : Value} (hi : f.nm[i]? = some x) (hnd : f.nm.Nodup) (hk : f.scope.names.lookup x = some .local)
    (r : v ≠ .undef → Rv W.K g s.heap v val) {Q : Unit → Shared → Prop} {E : Value → Shared → Prop}
    (P : ∀ s', At W d f A s' (ρ.set i v) σ g → (∀ b o, b ≠ f.L → s.heap.get? b = some o → s'.heap.get? b = some o) → (∀ m, s.heap.Ns f.L m → s'.heap.Ns f.L (fun y => if y = x then some val else m y)) → Q () s') : wpAny (model W.p W.w) A (storeName f.env x val) Q E s := by
  obtain ⟨m, F, l⟩ := at_.fr
  have hlt : i < ρ.length := by rw [at_.len]; exact (List.getElem?_eq_some_iff.mp hi).1
  refine wpAny_storeName_local (m := m) hk F.ns (fun h' hn hb => ?_) (by show (f.scope.kind == .class || (f.scope.kind == .module && f.L != mainGlobals)) = false; rw [at_.kind]; rfl)
  have ne : ∀ b o, b ≠ f.L → s.heap.get? b = some o → h'.get? b = some o := fun b o q e => (hb.2 b q).trans e
  have kp : ∀ b o, s.heap.get? b = some o → keepD o.data = true → h'.get? b = some o := fun b o e k => ne b o (fun q => by
    rw [q] at e
    rw [dict_of_ns F.ns e] at k; cases k) e
  refine P _ ?_ ne fun m' hm' => by rw [ns_one hm' F.ns]; exact hn
  refine { fr := ⟨_, F.set hn hb, ?_⟩, len := by rw [List.length_set]; exact at_.len, fo := ?_, sr := ⟨at_.sr.non, ?_⟩, off := at_.off, gens := at_.gens, os := at_.os, kind := at_.kind, handled := at_.handled, frames := at_.frames, depth := at_.depth, units := at_.units }
  · intro j y u hj hu hne
    by_cases hji : j = i
    · subst hji
      rw [hi] at hj
      cases hj
      rw [List.getElem?_set_self hlt] at hu
      cases hu
      exact ⟨val, by simp, (r hne).keep kp (.refl g)⟩
    · rw [List.getElem?_set_ne (Ne.symm hji)] at hu
      obtain ⟨vy, q1, q2⟩ := l j y u hj hu hne
      have hxy : y ≠ x := fun q => by
        subst q
        exact hji ((List.getElem?_inj (List.getElem?_eq_some_iff.mp hj).1 hnd).mp (hj.trans hi.symm))
      exact ⟨vy, by simp [hxy, q1], q2.keep kp (.refl g)⟩
  · intro e he
    obtain ⟨q1, Lf, o, q2, q3, q4, q5, q6, q7⟩ := at_.fo e he
    exact ⟨q1, Lf, o, q2, q3, q4, q5, ne _ _ q4 q6, q7⟩
  · intro st xa dx e1 e2
    obtain ⟨q1, q2, q3, q4, es, n, q5, q6⟩ := at_.sr.some st xa dx e1 e2
    obtain ⟨o1, o2⟩ := at_.off xa dx e2
    exact ⟨q1, q2, q3, ne _ _ o1 q4, es, n, ne _ _ o2 q5, q6⟩

theorem MS.iter {h₀ : Heap} {s s' : Shared} {σ : Sta} {g : G} {D I : Addr} {done tx : Tx} {sg : V} (x : MS W d f A h₀ s σ g D done tx sg) {oI : Obj} {ws : Array Value} (hI : s.heap.get? I = some oI) (hd : oI.data = .fields ws) (h0 : h₀.get? I = none)
    (a : At W d f A s' [.str tx, .undef, sg] σ g) (k : ∀ b o, b ≠ I → s.heap.get? b = some o → s'.heap.get? b = some o) : MS W d f A h₀ s' σ g D done tx sg where
  at_ := a
  out := fun m hm => by
    obtain ⟨m0, F, _⟩ := x.at_.fr
    obtain ⟨oL, es, ep, hL, hd', rr⟩ := F.ns
    have : s'.heap.Ns f.L m0 := ⟨_, es, ep, k _ _ (fun q => by rw [q, hI] at hL; cases hL; rw [hd] at hd'; cases hd') hL, hd', rr⟩
    rw [ns_one hm this]
    exact x.out m0 F.ns
  lst := by
    obtain ⟨items, ⟨o, n, e1, e2, e3, e4⟩, r⟩ := x.lst
    have hDI : D ≠ I := fun q => by rw [q, hI] at e1; cases e1; rw [hd] at e4; cases e4
    have gen : ∀ {vs : List V} {vals : List Value}, (∀ v ∈ vs, ∃ c, v = .str [c]) → RvL W.K g s.heap vs vals → RvL W.K g s'.heap vs vals := by
      intro vs vals hv r
      induction r with
      | nil => exact .nil
      | cons a b ih =>
        obtain ⟨c', rfl⟩ := hv _ (.head _)
        exact .cons (a.flatU rfl) (ih fun v hv' => hv v (.tail _ hv'))
    exact ⟨items, ⟨o, n, k _ _ hDI e1, e2, e3, e4⟩, gen (fun v hv => by obtain ⟨c', _, rfl⟩ := List.mem_map.mp hv; exact ⟨c', rfl⟩) r⟩
  hb := x.hb
  h0 := x.h0
  ex := by
    have hI' : ∀ b o, h₀.get? b = some o → b ≠ I := fun b o e q => by rw [q, h0] at e; cases e
    exact ⟨fun b o e q => k b o (hI' b o e) (x.ex.seq b o e q), fun b o e q z => let ⟨sl, w⟩ := x.ex.dic b o e q z; ⟨sl, k b _ (hI' b o e) w⟩⟩
  sg := x.sg

def markTest (done : Tx) (c : Nat) : Bool := decide (c = 121) && (done.isEmpty || vowelTx.contains [done.headD 0])
theorem mark_test (ok : OkF W) (hV : VowFn W) {h₀ : Heap} {s : Shared} {σ : Sta} {g : G} {D : Addr} {done tx : Tx} {c : Nat} (x : MS W d f A h₀ s σ g D done tx (.str [c])) (hz : done.length < 1000000) (hnm : f.nm = markNm) (hko : f.scope.names.lookup ("out" : Str) = some .local) (hks : f.scope.names.lookup ("sign" : Str) = some .local) (hkv : f.scope.names.lookup ("_law_vowel" : Str) = some .globalImplicit)
    {p4 p5 p6 p7 p8 p9 p10 p11 p12 p13 p14 p15 p16 : Pos} {k1 k2 : Nat} {Q : Bool → Shared → Prop} {E : Value → Shared → Prop} {whole : Sem Value} (P : ∀ s', MS W d f A h₀ s' σ g D done tx (.str [c]) → Ext g s.heap s'.heap → Q (markTest done c) s') :
    wpAny (model W.p W.w) A (isTrue (.BoolOp .And [.Compare (.Name "sign" p4) [.Eq] [.Constant (.str (strOf [121])) k1 p5] p6, .BoolOp .Or [.UnaryOp .Not (.Name "out" p7) p8, .Call (.Name "_law_vowel" p9) [.Subscript (.Name "out" p10) (.UnaryOp .USub (.Constant (.int 1) k2 p11) p12) p13] [] p14] p15] p16) f.env whole) Q E s := by
  have hcmp : SX W d f A (fun _ _ _ => none) (.Compare (.Name "sign" p4) [.Eq] [.Constant (.str (strOf [121])) k1 p5] p6) (.cmp .eq (.loc 2) (.cst (.str [121]))) := sx_cmp (o := .eq) (sx_loc hks (by decide) (by rw [hnm]; rfl)) (sx_str rfl (by decide))
  have ev : evalX (fun _ _ _ => none) [.str tx, .undef, .str [c]] (.cmp .eq (.loc 2) (.cst (.str [121]))) σ = some (.bool (decide ([c] = [121])), σ) := by
    simp only [evalX, locV, cmpV, Option.bind_eq_bind, Option.bind_some, List.getElem?_cons_succ, List.getElem?_cons_zero]
  refine isTrue_and (isTrue_cmp (hcmp s _ σ g _ σ x.at_ ev _ E fun va s₁ g₁ at₁ ex₁ gl₁ ra => ?_))
  have hg := g_same x.at_ at₁ gl₁
  subst hg
  have x₁ := x.ext at₁ ex₁
  cases ra
  refine wpAny_truthy_bool ?_
  by_cases hc : c = 121
  · subst hc
    rw [if_pos (by decide)]
    refine isTrue_and (isTrue_or (isTrue_not (isTrue_plain (x₁.ldOut hko ?_))))
    obtain ⟨items, pl, r⟩ := x₁.lst
    have hsz : items.size = done.length := by
      have := r.len
      rw [List.length_map, List.length_reverse] at this
      simpa using this
    refine wpAny_truthy_list pl.isList (by rw [hsz]; exact Int.lt_of_lt_of_le (Int.ofNat_lt.mpr hz) (by decide)) ?_
    cases done with
    | nil =>
      have e : (!!items.isEmpty) = true := by
        have : items.isEmpty = true := by rw [Array.isEmpty_iff_size_eq_zero, hsz]; rfl
        rw [this]; rfl
      rw [e, if_pos rfl]
      refine isTrue_and_nil ?_
      exact P _ (x₁.grow fun _ _ e => e) ex₁
    | cons y r' =>
      have e : (!!items.isEmpty) = false := by
        have : items.isEmpty = false := by
          rw [Bool.eq_false_iff]; intro q
          rw [Array.isEmpty_iff_size_eq_zero, hsz] at q; cases q
        rw [this]; rfl
      rw [e, if_neg (by decide)]
      refine isTrue_or ?_
      refine isTrue_plain ?_
      have x₂ : MS W d f A h₀ { s₁ with toks := s₁.toks + 1 + 1 } σ g₁ D (y :: r') tx (.str [121]) := x₁.grow (h' := s₁.heap) fun _ _ e => e
      obtain ⟨m₁, F₁, _⟩ := x₁.at_.fr
      obtain ⟨q1, q2, q3⟩ := ok.fn 28 false "_law_vowel" 631 rfl
      refine wpAny_Call_Name_kw (name_K F₁ ok.ok.X (topRead_of ok.ok.T) q3 ?_ x.at_.kind hkv (by decide))
      refine callWith_of (P := fun h => W.K.In h) rfl (keeps_K q1) (evalArgs_plain (spliced_cons ?_))
      refine Subscript_ ?_
      obtain ⟨o, n, e1, e2, e3, e4⟩ := pl
      refine ld F₁ (x₁.out m₁ F₁.ns) ?_ x.at_.kind hko (by decide)
      refine UnaryOp_ (wpAny_Constant_int (PySem.P.neg_int ?_))
      have hlast : items[(-1 + (items.size : Int)).toNat]? = items[r'.length]? := by
        rw [hsz]; congr 1
        show (-1 + ((r'.length + 1 : Nat) : Int)).toNat = _
        omega
      have hv : ∃ t, items[r'.length]? = some (.str (strOf [y]) t) := by
        have hlt : r'.length < items.toList.length := by
          have : items.toList.length = (y :: r').length := by simpa using hsz
          rw [this]; exact Nat.lt_succ_self _
        have hv' : ((y :: r').reverse.map fun c => V.str [c])[r'.length]? = some (.str [y]) := by
          rw [List.getElem?_map, List.reverse_cons, List.getElem?_append_right (by rw [List.length_reverse]; exact Nat.le_refl _)]
          simp
        have := r.at r'.length _ _ hv' (List.getElem?_eq_getElem hlt)
        cases q : items.toList[r'.length] with
        | str z t =>
          rw [q] at this
          cases this
          refine ⟨t, ?_⟩
          have : items.toList[r'.length]? = some (.str (strOf [y]) t) := by rw [List.getElem?_eq_getElem hlt, q]
          simpa using this
        | _ => rw [q] at this; cases this
      obtain ⟨t, hv⟩ := hv
      refine tail_sound (T := "list") ⟨_, e1, e2⟩ F.slot_list_getitem.lookup (wpAny_getItem_list_neg (items := items) (x := .str (strOf [y]) t) ⟨o, e1, e2, n, e4⟩ (by decide) (by rw [hsz]; show -((r'.length + 1 : Nat) : Int) ≤ -1; omega) (by decide) (hlast.trans hv) ?_) (.inl rfl)
      refine spliced_nil ⟨ok.ok.X.keeps F₁.keep, ?_⟩
      have hdp : A.depth < 1000 := by have := x.at_.depth; omega
      show wpAny _ _ (call (.ref 631) [.str (strOf [y]) t]) _ _ _
      refine vowel_call (x := [y]) (t := t) ok.ok hV ?_ hdp ?_
      · exact F₁.keep
      intro h' tk k
      refine wpAny_truthy_bool ?_
      have fin : ∀ (tk : Nat), Q (markTest (y :: r') 121) { s₁ with heap := h', toks := tk } := fun tk => P _ (x₁.grow k) (ex₁.trans (.refl _) (ext_grow _ k))
      have e : markTest (y :: r') 121 = vowelTx.contains [y] := by simp [markTest]
      rw [e] at fin
      cases hw : vowelTx.contains [y] with
      | true =>
        rw [hw] at fin
        rw [if_pos rfl, if_pos rfl]
        exact isTrue_and_nil (fin _)
      | false =>
        rw [hw] at fin
        rw [if_neg (by decide)]
        refine isTrue_or_nil ?_
        rw [if_neg (by decide)]
        exact fin _
  · have e : decide ([c] = [121]) = false := by
      rw [decide_eq_false_iff_not]; intro q; exact hc (by simpa using q)
    rw [e, if_neg (by decide)]
    have e2 : markTest done c = false := by unfold markTest; rw [decide_eq_false hc]; rfl
    rw [← e2]
    exact P s₁ x₁ ex₁
end
end Mine
end

section
open PySem PySem.W PySem.Calls PyProof.Rows
set_option Elab.async false
set_option maxRecDepth 100000
set_option linter.unusedVariables false
namespace Mine
section
variable {W : Wd} {d : Nat} {f : FC} {A A' : Around}

theorem markTx_cons (done : Tx) (c : Nat) (r : Tx) : markTx done (c :: r) = (if markTest done c then 89 else c) :: markTx ((if markTest done c then 89 else c) :: done) r := by
  have e : (if c = 121 ∧ (done = [] ∨ vowelTx.contains [done.headD 0] = true) then 89 else c) = if markTest done c then 89 else c := by
    unfold markTest
    congr 1
    simp [List.isEmpty_iff]
  show (let d := if c = 121 ∧ (done = [] ∨ vowelTx.contains [done.headD 0] = true) then 89 else c; d :: markTx (d :: done) r) = _
  rw [e]

/-- a text's iterator -/
def StrIt (h : Heap) (I : Addr) (x : Tx) (j : Nat) : Prop := ∃ t ty, (ty = "str_ascii_iterator" ∨ ty = "str_iterator") ∧ h.IsStrIter I ty (strOf x) t j
theorem StrIt.fields {h : Heap} {I : Addr} {x : Tx} {j : Nat} (it : StrIt h I x j) : ∃ o ws, h.get? I = some o ∧ o.data = .fields ws := by
  obtain ⟨t, ty, _, o, ho, hc, hd⟩ := it
  exact ⟨o, _, ho, hd⟩
theorem StrIt.at {h h' : Heap} {I : Addr} {x : Tx} {j : Nat} (it : StrIt h I x j) (k : ∀ o, h.get? I = some o → keepD o.data = true → h'.get? I = some o) : StrIt h' I x j := by
  obtain ⟨t, ty, q, o, ho, hc, hd⟩ := it
  exact ⟨t, ty, q, o, k _ ho (by rw [hd]; rfl), hc, hd⟩
theorem next_str {s : Shared} {ρ : List V} {σ : Sta} {g : G} (a : At W d f A s ρ σ g) {I : Addr} {x : Tx} {j : Nat} (it : StrIt s.heap I x j) (hb : W.hb.get? I = none) {Q : Option Value → Shared → Prop} {E : Value → Shared → Prop}
    (P0 : x[j]? = none → ∀ s', At W d f A s' ρ σ g → (∀ b o, b ≠ I → s.heap.get? b = some o → s'.heap.get? b = some o) → Q none s')
    (P1 : ∀ c, x[j]? = some c → ∀ val s', At W d f A s' ρ σ g → (∀ b o, b ≠ I → s.heap.get? b = some o → s'.heap.get? b = some o) → (∀ g h, Rv W.K g h (.str [c]) val) → StrIt s'.heap I x (j + 1) → Q (some val) s') :
    wpAny (model W.p W.w) A (pyNext (.ref I)) Q E s := by
  obtain ⟨oI, ws, hI, hId⟩ := it.fields
  obtain ⟨t, ty, hty, hit⟩ := it
  rcases hty with rfl | rfl
  · cases hv : (strOf x).cps[j]? with
    | none =>
      refine wpAny_pyNext_ascii_end a.handled hit hv fun h' he => ?_
      rw [str_at] at hv
      exact P0 hv _ (a.iter hI hId hb (n := s.toks) he) he
    | some c =>
      refine wpAny_pyNext_ascii_item hit hv fun h' hit' hs => ?_
      have k := fun b o (q : b ≠ I) e => hs.extBut b o q e
      rw [str_at] at hv
      exact P1 c hv _ _ (a.iter hI hId hb (n := s.toks + 1) k) k (fun _ _ => .str [c] _ (by show 1 ≤ sizeMax; decide)) ⟨t, _, .inl rfl, hit'⟩
  · cases hv : (strOf x).cps[j]? with
    | none =>
      refine wpAny_pyNext_wide_end a.handled hit hv fun h' he => ?_
      rw [str_at] at hv
      exact P0 hv _ (a.iter hI hId hb (n := s.toks) he) he
    | some c =>
      refine wpAny_pyNext_wide_item hit hv fun h' hit' hs => ?_
      have k := fun b o (q : b ≠ I) e => hs.extBut b o q e
      rw [str_at] at hv
      exact P1 c hv _ _ (a.iter hI hId hb (n := s.toks + 1) k) k (fun _ _ => .str [c] _ (by show 1 ≤ sizeMax; decide)) ⟨t, _, .inr rfl, hit'⟩

theorem mark_body (ok : OkF W) (hV : VowFn W) {body : List Stmt} (hB : MarkBody body) {s : Shared} {σ : Sta} {g : G} {tx : Tx} (hz : tx.length ≤ 1000) (hnm : f.nm = markNm) (hkt : f.scope.names.lookup ("text" : Str) = some .local) (hko : f.scope.names.lookup ("out" : Str) = some .local) (hks : f.scope.names.lookup ("sign" : Str) = some .local)
    (hkv : f.scope.names.lookup ("_law_vowel" : Str) = some .globalImplicit) (a : At W d f A s [.str tx, .undef, .undef] σ g) {Q : Flow → Shared → Prop} {E : Value → Shared → Prop}
    (P : ∀ s' val sg, At W d f A s' [.str tx, .undef, sg] σ g → ExtS f.L g s.heap s'.heap → Rv W.K g s'.heap (.list ((markTx [] tx).map fun c => .str [c])) val → Q (.ret val) s') :
    wpAny (model W.p W.w) A (PySem.execs body f.env) Q E s := by
  have hnd : f.nm.Nodup := by rw [hnm]; decide
  cases hB with
  | mk hl1 hl2 =>
  refine wpAny_execs_cons (wpAny_Assign_Name (List_ (spliced_none (wpAny_newList ?_ (by decide)))) rfl)
  have hbD : W.hb.get? s.heap.objs.size = none := a.fresh_hb (Nat.le_refl _)
  have h0D : s.heap.get? s.heap.objs.size = none := none_of_size (Nat.le_refl _)
  have a₁ := a.push { cls := .type "list", data := .seq ([] : List Value).toArray } s.toks
  refine store_full (i := 1) (v := .undef) a₁ (by rw [hnm]; rfl) hnd hko (fun h => absurd rfl h) fun s₂ a₂ k₂ n₂ => ?_
  obtain ⟨m₁, F₁, _⟩ := a₁.fr
  have hLD : s.heap.objs.size ≠ f.L := by
    obtain ⟨m, F, _⟩ := a.fr
    obtain ⟨oL, es, ep, hL, _⟩ := F.ns
    exact Nat.ne_of_gt (Heap.lt_size hL)
  have ms : MS W d f A s.heap s₂ σ g s.heap.objs.size [] tx .undef := by
    refine { at_ := a₂, out := fun m hm => ?_, lst := ⟨#[], ⟨_, 0, k₂ _ _ hLD (Heap.get?_push_size _ rfl), rfl, rfl, rfl⟩, .nil⟩, hb := hbD, h0 := h0D, ex := ?_, sg := rfl }
    · rw [ns_one hm (n₂ m₁ F₁.ns)]; simp
    · have hL : ∀ b o, s.heap.get? b = some o → keepD o.data = true → b ≠ f.L := fun b o e k q => by
        obtain ⟨m, F, _⟩ := a.fr
        rw [q] at e; rw [dict_of_ns F.ns e] at k; cases k
      exact ⟨fun b o e k => k₂ b o (hL b o e k) (Heap.get?_push_of_some _ e), fun b o e q _ => ⟨o.slots, k₂ b o q (Heap.get?_push_of_some _ e)⟩⟩
  dsimp only
  refine wpAny_execs_cons ?_
  have hsx : SX W d f A (fun _ _ _ => none) (.Name "text" ‹Pos›) (.loc 0) := sx_loc hkt (by decide) (by rw [hnm]; rfl)
  -- the loop
  have loop : ∀ (I : Addr) (s₃ : Shared), MS W d f A s.heap s₃ σ g s.heap.objs.size [] tx .undef → StrIt s₃.heap I tx 0 → W.hb.get? I = none → s.heap.get? I = none →
      ∀ {p4 p5 p6 p7 p8 p9 p10 p11 p12 p13 p14 p15 p16 p17 ap1 p18 cp1 q2 p19 ap2 p20 cp2 q3 q4 p2 p21 q6 : Pos} {k1 k2 k3 : Nat} (h1 : (ap1.endLine == cp1.line) = true) (h2 : (ap2.endLine == cp2.line) = true),
      codeAny (model W.p W.w) A (.forLoop (.Name "sign" p2) (.ref I) [.If (.BoolOp .And [.Compare (.Name "sign" p4) [.Eq] [.Constant (.str (strOf [121])) k1 p5] p6, .BoolOp .Or [.UnaryOp .Not (.Name "out" p7) p8, .Call (.Name "_law_vowel" p9) [.Subscript (.Name "out" p10) (.UnaryOp .USub (.Constant (.int 1) k2 p11) p12) p13] [] p14] p15] p16)
        [.Expr (.Call (.Attribute (.Name "out" p17) "append" ap1) [.Constant (.str (strOf [89])) k3 p18] [] cp1) q2]
        [.Expr (.Call (.Attribute (.Name "out" p19) "append" ap2) [.Name "sign" p20] [] cp2) q3] q4] [] f.env)
        (fun r s' => match r with | .ok fl => (match fl with | .next => wpAny (model W.p W.w) A (PySem.execs [.Return (some (.Name "out" p21)) q6] f.env) Q E s' | fl => Q fl s') | .error e => cameBackBy (model W.p W.w) A f.env E e s') s₃ := by
    intro I s₃ ms₃ it₃ hbI h0I p4 p5 p6 p7 p8 p9 p10 p11 p12 p13 p14 p15 p16 p17 ap1 p18 cp1 q2 p19 ap2 p20 cp2 q3 q4 p2 p21 q6 k1 k2 k3 h1 h2
    refine codeAny_forLoop (fun n s' => ∃ us done sg j, n = us.length ∧ MS W d f A s.heap s' σ g s.heap.objs.size done tx sg ∧ StrIt s'.heap I tx j ∧ us = tx.drop j ∧ done.reverse ++ markTx done us = markTx [] tx ∧ done.length + us.length = tx.length) ?_ tx.length ⟨tx, [], .undef, 0, rfl, ms₃, it₃, rfl, rfl, by simp⟩
    rintro n s' ⟨us, done, sg, j, rfl, ms', it', hj, hm, hlen⟩
    have hdz : done.length < 1000000 := by omega
    obtain ⟨oI, ws, hI, hId⟩ := it'.fields
    refine next_str ms'.at_ it' hbI (fun e0 s₄ a₄ k₄ => ?_) fun c e0 val s₄ a₄ k₄ rv it₄ => ?_
    · have : us = [] := by rw [hj]; exact List.drop_eq_nil_of_le (by simpa using e0)
      subst this
      have ms₄ := ms'.iter hI hId h0I a₄ k₄
      refine wpAny_execs_nil (wpAny_execs_cons ?_)
      rw [exec_Return_some]
      refine wpAny_bind (wpAny_standAt (wpAny_bind (ms₄.ldOut hko ?_)))
      refine wpAny_pure ?_
      obtain ⟨items, pl, rr⟩ := ms₄.lst
      rw [show markTx done [] = [] from rfl, List.append_nil] at hm
      refine P s₄ _ sg ms₄.at_ ms₄.ex ?_
      rw [← hm]
      refine .list (items := items.toList) pl.isList rr.len (by rw [List.length_map, List.length_reverse]; exact Nat.le_trans (Nat.le_of_lt hdz) (by decide)) fun i v x h1 h2 => rr.at i v x h1 h2
    · obtain ⟨q1, q2⟩ := List.getElem?_eq_some_iff.mp e0
      rw [List.drop_eq_getElem_cons q1, q2] at hj
      cases us with
      | nil => cases hj
      | cons c' us =>
        cases hj
        have ms₄ := ms'.iter hI hId h0I a₄ k₄
        refine assign_Name (store_full (i := 2) (v := .str [c]) a₄ (by rw [hnm]; rfl) hnd hks (fun _ => rv _ _) fun s₅ a₅ k₅ n₅ => ?_)
        have hLk : ∀ b o, s₄.heap.get? b = some o → keepD o.data = true → s₅.heap.get? b = some o := fun b o e k => k₅ b o (fun q => by
          obtain ⟨m, F, _⟩ := a₄.fr
          rw [q] at e; rw [dict_of_ns F.ns e] at k; cases k) e
        have ms₅ : MS W d f A s.heap s₅ σ g s.heap.objs.size done tx (.str [c]) := by
          obtain ⟨m₄, F₄, _⟩ := a₄.fr
          refine { at_ := a₅, out := fun m hm => ?_, lst := ?_, hb := hbD, h0 := h0D, ex := ?_, sg := rfl }
          · rw [ns_one hm (n₅ m₄ F₄.ns)]
            have := ms₄.out m₄ F₄.ns
            show (if ("out" : Str) = "sign" then _ else _) = _
            rw [if_neg (by decide)]; exact this
          · obtain ⟨items, ⟨o, n, e1, e2, e3, e4⟩, rr⟩ := ms₄.lst
            exact ⟨items, ⟨o, n, hLk _ _ e1 (by rw [e4]; rfl), e2, e3, e4⟩, rr.keepS (fun b o xs n e q => hLk b o e (by rw [q]; rfl)) (.refl g)⟩
          · exact ⟨fun b o e k => hLk b o (ms₄.ex.seq b o e k) k, fun b o e q z => let ⟨sl, w⟩ := ms₄.ex.dic b o e q z; ⟨sl, k₅ b _ q w⟩⟩
        have it₅ : StrIt s₅.heap I tx (j + 1) := it₄.at fun o e k => hLk _ _ e k
        refine wpAny_execs_cons (wpAny_If (mark_test ok hV ms₅ hdz hnm hko hks hkv fun s₆ ms₆ ex₆ => ?_))
        have it₆ := it₅.at fun o e k => ex₆.seq _ _ e k
        rw [markTx_cons] at hm
        obtain ⟨oI, ws, hI, hId⟩ := it₆.fields
        have ID : I ≠ s.heap.objs.size := fun q => by
          obtain ⟨items, ⟨o, n, e1, e2, e3, e4⟩, rr⟩ := ms₆.lst
          rw [← q, hI] at e1; cases e1; rw [hId] at e4; cases e4
        have keepI : ∀ {s₇ : Shared}, (∀ b o, b ≠ s.heap.objs.size → s₆.heap.get? b = some o → s₇.heap.get? b = some o) → StrIt s₇.heap I tx (j + 1) := fun k => it₆.at fun o e _ => k _ _ ID e
        cases hb : markTest done c with
        | true =>
          rw [hb, if_pos rfl] at hm
          rw [if_pos rfl]
          refine wpAny_execs_cons (mark_append (c := 89) ms₆ hdz hko h1 rfl (fun Q' E' P' => ?_) fun s₇ ms₇ k₇ => ?_)
          · show wpAny _ _ (mkText _) _ _ _
            refine wpAny_mkText ?_
            exact P' _ _ (ms₆.grow (h' := s₆.heap) fun _ _ e => e) (fun _ _ e => e) fun _ _ => .str _ _ (by decide)
          · refine wpAny_execs_nil (wpAny_execs_nil ?_)
            exact ⟨_, Nat.lt_succ_self _, _, 89 :: done, _, j + 1, rfl, ms₇, keepI k₇, rfl, by rw [List.reverse_cons, List.append_assoc]; exact hm, by rw [List.length_cons] at hlen ⊢; omega⟩
        | false =>
          rw [hb, if_neg (by decide)] at hm
          rw [if_neg (by decide)]
          refine wpAny_execs_cons (mark_append (c := c) ms₆ hdz hko h2 rfl (fun Q' E' P' => ?_) fun s₇ ms₇ k₇ => ?_)
          · have hx : SX W d f A (fun _ _ _ => none) (.Name "sign" p20) (.loc 2) := sx_loc hks (by decide) (by rw [hnm]; rfl)
            obtain ⟨m₆, F₆, l₆⟩ := ms₆.at_.fr
            obtain ⟨val, q1, q2⟩ := l₆ 2 "sign" (.str [c]) (by rw [hnm]; rfl) rfl (by intro e; cases e)
            refine ld F₆ q1 (P' val s₆ ms₆ (fun _ _ e => e) fun g h => ?_) ms₆.at_.kind hks (by decide)
            exact q2.flatU rfl
          · refine wpAny_execs_nil (wpAny_execs_nil ?_)
            exact ⟨_, Nat.lt_succ_self _, _, c :: done, _, j + 1, rfl, ms₇, keepI k₇, rfl, by rw [List.reverse_cons, List.append_assoc]; exact hm, by rw [List.length_cons] at hlen ⊢; omega⟩
  refine wpAny_For ?_ (fun _ => rfl)
  obtain ⟨m₂, F₂, l₂⟩ := a₂.fr
  obtain ⟨val, q1, q2⟩ := l₂ 0 "text" (.str tx) (by rw [hnm]; rfl) rfl (by intro e; cases e)
  cases q2
  rename_i t htx
  refine ld F₂ q1 ?_ a.kind hkt (by decide)
  cases ha : (strOf tx).cps.all (· < 128) with
  | true =>
    refine wpAny_pyIter_ascii ha ?_
    exact loop _ _ (ms.grow (n := s₂.toks) fun b o e => Heap.get?_push_of_some _ e) ⟨t, _, .inl rfl, _, Heap.get?_push_size _ rfl, rfl, rfl⟩ (a₂.fresh_hb (Nat.le_refl _)) (none_of_size (Nat.le_of_lt (Heap.lt_size (k₂ _ _ hLD (Heap.get?_push_size _ rfl))))) hl1 hl2
  | false =>
    refine wpAny_pyIter_wide ha ?_
    exact loop _ _ (ms.grow (n := s₂.toks) fun b o e => Heap.get?_push_of_some _ e) ⟨t, _, .inr rfl, _, Heap.get?_push_size _ rfl, rfl, rfl⟩ (a₂.fresh_hb (Nat.le_refl _)) (none_of_size (Nat.le_of_lt (Heap.lt_size (k₂ _ _ hLD (Heap.get?_push_size _ rfl))))) hl1 hl2
end
end Mine
end

section
open PySem PySem.W PySem.Calls PyProof.Rows
set_option Elab.async false
set_option maxRecDepth 100000
set_option linter.unusedVariables false
namespace Mine
section
variable {W : Wd} {d : Nat} {f : FC} {A A' : Around}

theorem mark_sound (ok : OkF W) (hV : VowFn W) (hM : MarkFn W) {vs : List V} {vals : List Value} {v u : V} {σ : Sta} {s : Shared} {ρ : List V} {g : G}
    (a : At W (d + 1) f A s ρ σ g) (N : Near A A') (r : RvL W.K g s.heap vs vals) (hv : vs = [u]) (h : markedV u = some v) {Q : Value → Shared → Prop} {R : Result → Shared → Prop} (P : PostX W (d + 1) f A s ρ g v σ Q)
    (hR : ∀ val s', Q val s' → R (.ok (.ret val)) s') : codeAny (model W.p W.w) A' (.call (.ref 638) ⟨vals, []⟩) R s := by
  subst hv
  obtain ⟨x, rfl, rx⟩ := r.one
  have hu : ∃ tx : Tx, u = .str tx ∧ tx.length ≤ 1000 ∧ v = .list ((markTx [] tx).map fun c => .str [c]) := by
    unfold markedV at h
    split at h
    · split at h
      · rename_i hz; cases h; exact ⟨_, rfl, hz, rfl⟩
      · cases h
    · cases h
  obtain ⟨tx, rfl, hz, rfl⟩ := hu
  obtain ⟨name, qual, params, body, scope, dV, kV, doc, pm, an, cdv, ct, oc, od, osl, q1, q2, q3, q4, q5, q6, q7, q8, q9, q10, q11, q12⟩ := hM.shape
  obtain ⟨m, F, l⟩ := a.fr
  have X := ok.ok.X.keeps F.keep
  refine codeAny_call_def (binds := [("text", x)]) (by have := a.depth; have := N.depth; show A'.depth < 1000; omega) (X _ _ q1) rfl (ok.ok.T.nolimit.keeps F.keep) (codeRec_of X q2) rfl (q7 _ _) q6 (fun y hy => ?_) (fun h₀ hns k₀ => ?_) q4 q5 q3
  · cases hy with
    | head => exact q8
    | tail _ h => cases h
  · have b := at_enter (A' := A') (qual := qual) (scope := scope) (fa := 638) (cdv := cdv) (nm := markNm) (np := 1) (tk := s.toks + 1) a N (by decide) (by decide) rfl r q3 hns k₀
    refine mark_body (f := ⟨qual, scope, s.heap.objs.size, 638, cdv, f.env :: f.outer, markNm⟩) ok hV q12 hz rfl q8 q9 q10 q11 b fun s' val sg b' ex rv => ?_
    obtain ⟨a', ex'⟩ := at_back a k₀ b' ex (.refl g)
    exact hR val s' (P val s' g a' ex' (.refl g) rv)

/-- all the defs of the top, as the small language has them -/
structure AllFn (W : Wd) : Prop where
  ok : OkF W
  vow : VowFn W
  mark : MarkFn W
  fn : ∀ (i : Nat) (bb : Bool) (x : Str) (fa np nl : Nat) (b : S), fnTab[i]? = some (bb, x, fa) → FNS[i]? = some (.ir np nl b) → FnIs W fa np nl b

theorem fns_marked {i : Nat} (h : FNS[i]? = some .marked) : i = 29 := by
  have hi : i < 35 := (List.getElem?_eq_some_iff.mp h).1
  have : ∀ i : Fin 35, (match FNS[i.1]? with | some .marked => decide (i.1 = 29) | _ => true) = true := by decide
  have q := this ⟨i, hi⟩
  rw [show FNS[(⟨i, hi⟩ : Fin 35).1]? = some .marked from h] at q
  exact of_decide_eq_true q
theorem sphi (H : AllFn W) : ∀ d, SPhi W d (callN FNS d)
  | 0 => fun i b x fa vs vals v σ σ' f A A' s ρ g hi a N r h => by cases h
  | d + 1 => fun i b x fa vs vals v σ σ' f A A' s ρ g hi a N r h Q R P hR => by
    unfold callN at h
    split at h
    · rename_i np nl body hf
      split at h
      · rename_i hv
        exact fn_sound H.ok H.vow (H.fn i b x fa np nl body hi hf) (sphi H d) a N r hv h P hR
      · cases h
    · rename_i hf
      have := fns_marked hf
      subst this
      split at h
      · rename_i u
        obtain ⟨w, hw, e⟩ := Option.map_eq_some_iff.mp h
        cases e
        cases hi
        exact mark_sound H.ok H.vow H.mark a N r rfl hw P hR
      · cases h
    · cases h
end
end Mine
end

section
open PySem PySem.W PySem.Calls PyProof.Rows
set_option Elab.async false
set_option maxRecDepth 100000
set_option linter.unusedVariables false
namespace Mine
theorem bind_0 {name qual : Str} {body : List Stmt} {scope : Scope} {kV doc pm cdv ct : Value} {an : Option Addr} {args : List Arg} {vals : List Value} (h : args.map (·.arg) = [("self" : Str), ("s" : Str)]) (hv : vals.length = 2) :
    bindArgs (fnOf name qual ⟨[], args, none, [], [], none, []⟩ body scope .none kV doc pm an cdv ct) ⟨vals, []⟩ = pure ([("self" : Str), ("s" : Str)].zip vals) := by
  match args, h, vals, hv with
  | [⟨x0, y0, z0⟩, ⟨x1, y1, z1⟩], h, [v0, v1], _ =>
    simp only [List.map_cons, List.map_nil, List.cons.injEq, and_true] at h
    obtain ⟨rfl, rfl⟩ := h
    rfl
theorem bind_1 {name qual : Str} {body : List Stmt} {scope : Scope} {kV doc pm cdv ct : Value} {an : Option Addr} {args : List Arg} {vals : List Value} (h : args.map (·.arg) = [("self" : Str), ("v" : Str)]) (hv : vals.length = 2) :
    bindArgs (fnOf name qual ⟨[], args, none, [], [], none, []⟩ body scope .none kV doc pm an cdv ct) ⟨vals, []⟩ = pure ([("self" : Str), ("v" : Str)].zip vals) := by
  match args, h, vals, hv with
  | [⟨x0, y0, z0⟩, ⟨x1, y1, z1⟩], h, [v0, v1], _ =>
    simp only [List.map_cons, List.map_nil, List.cons.injEq, and_true] at h
    obtain ⟨rfl, rfl⟩ := h
    rfl
theorem bind_2 {name qual : Str} {body : List Stmt} {scope : Scope} {kV doc pm cdv ct : Value} {an : Option Addr} {args : List Arg} {vals : List Value} (h : args.map (·.arg) = [("self" : Str), ("c_bra" : Str), ("c_ket" : Str), ("s" : Str)]) (hv : vals.length = 4) :
    bindArgs (fnOf name qual ⟨[], args, none, [], [], none, []⟩ body scope .none kV doc pm an cdv ct) ⟨vals, []⟩ = pure ([("self" : Str), ("c_bra" : Str), ("c_ket" : Str), ("s" : Str)].zip vals) := by
  match args, h, vals, hv with
  | [⟨x0, y0, z0⟩, ⟨x1, y1, z1⟩, ⟨x2, y2, z2⟩, ⟨x3, y3, z3⟩], h, [v0, v1, v2, v3], _ =>
    simp only [List.map_cons, List.map_nil, List.cons.injEq, and_true] at h
    obtain ⟨rfl, rfl, rfl, rfl⟩ := h
    rfl
theorem bind_3 {name qual : Str} {body : List Stmt} {scope : Scope} {kV doc pm cdv ct : Value} {an : Option Addr} {args : List Arg} {vals : List Value} (h : args.map (·.arg) = [("self" : Str)]) (hv : vals.length = 1) :
    bindArgs (fnOf name qual ⟨[], args, none, [], [], none, []⟩ body scope .none kV doc pm an cdv ct) ⟨vals, []⟩ = pure ([("self" : Str)].zip vals) := by
  match args, h, vals, hv with
  | [⟨x0, y0, z0⟩], h, [v0], _ =>
    simp only [List.map_cons, List.map_nil, List.cons.injEq, and_true] at h
    subst h
    rfl
theorem bind_4 {name qual : Str} {body : List Stmt} {scope : Scope} {kV doc pm cdv ct : Value} {an : Option Addr} {args : List Arg} {vals : List Value} (h : args.map (·.arg) = [("self" : Str), ("value" : Str)]) (hv : vals.length = 2) :
    bindArgs (fnOf name qual ⟨[], args, none, [], [], none, []⟩ body scope .none kV doc pm an cdv ct) ⟨vals, []⟩ = pure ([("self" : Str), ("value" : Str)].zip vals) := by
  match args, h, vals, hv with
  | [⟨x0, y0, z0⟩, ⟨x1, y1, z1⟩], h, [v0, v1], _ =>
    simp only [List.map_cons, List.map_nil, List.cons.injEq, and_true] at h
    obtain ⟨rfl, rfl⟩ := h
    rfl
theorem bind_5 {name qual : Str} {body : List Stmt} {scope : Scope} {kV doc pm cdv ct : Value} {an : Option Addr} {args : List Arg} {vals : List Value} (h : args.map (·.arg) = [("self" : Str), ("word" : Str)]) (hv : vals.length = 2) :
    bindArgs (fnOf name qual ⟨[], args, none, [], [], none, []⟩ body scope .none kV doc pm an cdv ct) ⟨vals, []⟩ = pure ([("self" : Str), ("word" : Str)].zip vals) := by
  match args, h, vals, hv with
  | [⟨x0, y0, z0⟩, ⟨x1, y1, z1⟩], h, [v0, v1], _ =>
    simp only [List.map_cons, List.map_nil, List.cons.injEq, and_true] at h
    obtain ⟨rfl, rfl⟩ := h
    rfl
theorem bind_6 {name qual : Str} {body : List Stmt} {scope : Scope} {kV doc pm cdv ct : Value} {an : Option Addr} {args : List Arg} {vals : List Value} (h : args.map (·.arg) = ([] : List Str)) (hv : vals.length = 0) :
    bindArgs (fnOf name qual ⟨[], args, none, [], [], none, []⟩ body scope .none kV doc pm an cdv ct) ⟨vals, []⟩ = pure (([] : List Str).zip vals) := by
  match args, h, vals, hv with
  | [], h, [], _ =>
    rfl
theorem bind_7 {name qual : Str} {body : List Stmt} {scope : Scope} {kV doc pm cdv ct : Value} {an : Option Addr} {args : List Arg} {vals : List Value} (h : args.map (·.arg) = [("sign" : Str)]) (hv : vals.length = 1) :
    bindArgs (fnOf name qual ⟨[], args, none, [], [], none, []⟩ body scope .none kV doc pm an cdv ct) ⟨vals, []⟩ = pure ([("sign" : Str)].zip vals) := by
  match args, h, vals, hv with
  | [⟨x0, y0, z0⟩], h, [v0], _ =>
    simp only [List.map_cons, List.map_nil, List.cons.injEq, and_true] at h
    subst h
    rfl
theorem bind_8 {name qual : Str} {body : List Stmt} {scope : Scope} {kV doc pm cdv ct : Value} {an : Option Addr} {args : List Arg} {vals : List Value} (h : args.map (·.arg) = [("text" : Str)]) (hv : vals.length = 1) :
    bindArgs (fnOf name qual ⟨[], args, none, [], [], none, []⟩ body scope .none kV doc pm an cdv ct) ⟨vals, []⟩ = pure ([("text" : Str)].zip vals) := by
  match args, h, vals, hv with
  | [⟨x0, y0, z0⟩], h, [v0], _ =>
    simp only [List.map_cons, List.map_nil, List.cons.injEq, and_true] at h
    subst h
    rfl
theorem bind_9 {name qual : Str} {body : List Stmt} {scope : Scope} {kV doc pm cdv ct : Value} {an : Option Addr} {args : List Arg} {vals : List Value} (h : args.map (·.arg) = [("marked" : Str), ("start" : Str)]) (hv : vals.length = 2) :
    bindArgs (fnOf name qual ⟨[], args, none, [], [], none, []⟩ body scope .none kV doc pm an cdv ct) ⟨vals, []⟩ = pure ([("marked" : Str), ("start" : Str)].zip vals) := by
  match args, h, vals, hv with
  | [⟨x0, y0, z0⟩, ⟨x1, y1, z1⟩], h, [v0, v1], _ =>
    simp only [List.map_cons, List.map_nil, List.cons.injEq, and_true] at h
    obtain ⟨rfl, rfl⟩ := h
    rfl
theorem bind_10 {name qual : Str} {body : List Stmt} {scope : Scope} {kV doc pm cdv ct : Value} {an : Option Addr} {args : List Arg} {vals : List Value} (h : args.map (·.arg) = [("marked" : Str)]) (hv : vals.length = 1) :
    bindArgs (fnOf name qual ⟨[], args, none, [], [], none, []⟩ body scope .none kV doc pm an cdv ct) ⟨vals, []⟩ = pure ([("marked" : Str)].zip vals) := by
  match args, h, vals, hv with
  | [⟨x0, y0, z0⟩], h, [v0], _ =>
    simp only [List.map_cons, List.map_nil, List.cons.injEq, and_true] at h
    subst h
    rfl
theorem bind_11 {name qual : Str} {body : List Stmt} {scope : Scope} {kV doc pm cdv ct : Value} {an : Option Addr} {args : List Arg} {vals : List Value} (h : args.map (·.arg) = [("rows" : Str), ("text" : Str)]) (hv : vals.length = 2) :
    bindArgs (fnOf name qual ⟨[], args, none, [], [], none, []⟩ body scope .none kV doc pm an cdv ct) ⟨vals, []⟩ = pure ([("rows" : Str), ("text" : Str)].zip vals) := by
  match args, h, vals, hv with
  | [⟨x0, y0, z0⟩, ⟨x1, y1, z1⟩], h, [v0, v1], _ =>
    simp only [List.map_cons, List.map_nil, List.cons.injEq, and_true] at h
    obtain ⟨rfl, rfl⟩ := h
    rfl
theorem bind_12 {name qual : Str} {body : List Stmt} {scope : Scope} {kV doc pm cdv ct : Value} {an : Option Addr} {args : List Arg} {vals : List Value} (h : args.map (·.arg) = [("script" : Str)]) (hv : vals.length = 1) :
    bindArgs (fnOf name qual ⟨[], args, none, [], [], none, []⟩ body scope .none kV doc pm an cdv ct) ⟨vals, []⟩ = pure ([("script" : Str)].zip vals) := by
  match args, h, vals, hv with
  | [⟨x0, y0, z0⟩], h, [v0], _ =>
    simp only [List.map_cons, List.map_nil, List.cons.injEq, and_true] at h
    subst h
    rfl
def patNames : List (List Str) := [[("self" : Str), ("s" : Str)], [("self" : Str), ("v" : Str)], [("self" : Str), ("c_bra" : Str), ("c_ket" : Str), ("s" : Str)], [("self" : Str)], [("self" : Str), ("value" : Str)], [("self" : Str), ("word" : Str)], [], [("sign" : Str)], [("text" : Str)], [("marked" : Str), ("start" : Str)], [("marked" : Str)], [("rows" : Str), ("text" : Str)], [("script" : Str)]]
def paramsB (names : List Str) (p : Arguments) : Bool := p.posonlyargs.isEmpty && p.vararg.isNone && p.kwonlyargs.isEmpty && p.kw_defaults.isEmpty && p.kwarg.isNone && p.defaults.isEmpty && decide (p.args.map (·.arg) = names)
theorem params_of {names : List Str} {p : Arguments} (h : paramsB names p = true) : ∃ args, p = ⟨[], args, none, [], [], none, []⟩ ∧ args.map (·.arg) = names := by
  obtain ⟨a, b, c, d, e, f, g⟩ := p
  unfold paramsB at h
  simp only [Bool.and_eq_true, decide_eq_true_eq, List.isEmpty_iff, Option.isNone_iff_eq_none] at h
  obtain ⟨⟨⟨⟨⟨⟨rfl, rfl⟩, rfl⟩, rfl⟩, rfl⟩, rfl⟩, h⟩ := h
  exact ⟨b, rfl, h⟩
theorem bind_all {names : List Str} (hn : names ∈ patNames) {name qual : Str} {params : Arguments} {body : List Stmt} {scope : Scope} {kV doc pm cdv ct : Value} {an : Option Addr} {vals : List Value} (h : paramsB names params = true) (hv : vals.length = names.length) :
    bindArgs (fnOf name qual params body scope .none kV doc pm an cdv ct) ⟨vals, []⟩ = pure (names.zip vals) := by
  obtain ⟨args, rfl, h2⟩ := params_of h
  unfold patNames at hn
  simp only [List.mem_cons, List.not_mem_nil, or_false] at hn
  rcases hn with rfl | rfl | rfl | rfl | rfl | rfl | rfl | rfl | rfl | rfl | rfl | rfl | rfl
  · exact bind_0 h2 hv
  · exact bind_1 h2 hv
  · exact bind_2 h2 hv
  · exact bind_3 h2 hv
  · exact bind_4 h2 hv
  · exact bind_5 h2 hv
  · exact bind_6 h2 hv
  · exact bind_7 h2 hv
  · exact bind_8 h2 hv
  · exact bind_9 h2 hv
  · exact bind_10 h2 hv
  · exact bind_11 h2 hv
  · exact bind_12 h2 hv
end Mine
end

section
open PySem PySem.W PySem.Calls PyProof.Rows
set_option Elab.async false
set_option maxRecDepth 100000
set_option linter.unusedVariables false
namespace Mine

def NMS : List (List String) := [nm0, nm1, nm2, nm3, nm4, nm5, nm6, nm7, nm8, nm9, nm10, nm11, nm12, nm13, nm14, nm15, nm16, nm17, nm18, nm19, nm20, nm21, nm22, nm23, nm24, nm25, nm26, nm27, nm28, nm29, nm30, nm31, nm32, nm33, nm34]
def isNoneV : Value → Bool
  | .none => true | _ => false
theorem isNoneV_of {v : Value} (h : isNoneV v = true) : v = .none := by cases v <;> first | rfl | cases h
def headB (K : Frag) (fd : FuncData) (ps : List Str) : Bool :=
  fd.globals == mainGlobals && fd.closure.isEmpty && isNoneV fd.defaults && fd.builtins == builtinsNs && codeIn K fd.code fd.qualname && fd.scope.kind == .function && !fd.scope.isCoroutine && !fd.scope.isGenerator &&
    (fd.scope.names.all fun x => x.2 != .cell) && paramsB ps fd.params && patNames.contains ps && (ps.all fun x => fd.scope.names.lookup x == some .local)
def fnB (K : Frag) (fa : Addr) (np nl : Nat) (nm : List Str) (b : S) : Bool := match K.lookup fa with
  | some ⟨_, _, .func fd, _⟩ => headB K fd (nm.take np) && (match fd.body with | .stmts body => chkL ⟨nm, fd.scope.names⟩ b body | _ => false) && decide nm.Nodup && decide (nm.length = nl) && decide (np ≤ nl)
  | _ => false
theorem head_of {K : Frag} {fd : FuncData} {ps : List Str} (h : headB K fd ps = true) {body : List Stmt} (hb : fd.body = .stmts body) : ∃ (name qual : Str) (params : Arguments) (scope : Scope) (kV doc pm : Value) (an : Option Addr) (cdv ct : Value),
    fd = fnOf name qual params body scope .none kV doc pm an cdv ct ∧ fd.scope = scope ∧ codeIn K cdv qual = true ∧ scope.kind = .function ∧ scope.isCoroutine = false ∧ scope.isGenerator = false ∧ (∀ x ∈ scope.names, x.2 ≠ .cell) ∧
    (∀ s vals, vals.length = ps.length → BindsTo s (fnOf name qual params body scope .none kV doc pm an cdv ct) ⟨vals, []⟩ (ps.zip vals)) ∧ (∀ x ∈ ps, scope.names.lookup x = some .local) := by
  obtain ⟨name, qual, params, bd, scope, gl, cl, dV, kV, doc, pm, an, cdv, ct, bi⟩ := fd
  unfold headB at h
  simp only [Bool.and_eq_true, beq_iff_eq, List.isEmpty_iff, Bool.not_eq_true'] at h
  obtain ⟨⟨⟨⟨⟨⟨⟨⟨⟨⟨⟨rfl, rfl⟩, h3⟩, rfl⟩, h5⟩, h6⟩, h7⟩, h8⟩, h9⟩, h10⟩, h11⟩, h12⟩ := h
  have := isNoneV_of h3
  dsimp only at this hb
  subst this
  subst hb
  refine ⟨name, qual, params, scope, kV, doc, pm, an, cdv, ct, rfl, rfl, h5, h6, h7, h8, fun x hx => ?_, fun s vals hv => ?_, fun x hx => ?_⟩
  · have := List.all_eq_true.mp h9 x hx
    simpa using this
  · exact BindsTo.of_eq (bind_all (List.contains_iff_mem.mp h11) h10 hv)
  · have := List.all_eq_true.mp h12 x hx
    exact beq_iff_eq.mp this
theorem fn_of {W : Wd} {fa : Addr} {np nl : Nat} {nm : List Str} {b : S} (h : fnB W.K fa np nl nm b = true) : FnIs W fa np nl b := by
  unfold fnB at h
  split at h
  · rename_i oc od fd osl hl
    simp only [Bool.and_eq_true, decide_eq_true_eq] at h
    obtain ⟨⟨⟨⟨h1, h2⟩, h3⟩, h4⟩, h5⟩ := h
    split at h2
    · rename_i body hb
      obtain ⟨name, qual, params, scope, kV, doc, pm, an, cdv, ct, e, es, q1, q2, q3, q4, q5, q6, q7⟩ := head_of h1 hb
      rw [es] at h2
      rw [e] at hl
      have hlen : (nm.take np).length = np := by rw [List.length_take, h4]; omega
      exact ⟨name, qual, params, body, scope, .none, kV, doc, pm, an, cdv, ct, oc, od, osl, nm, hl, q1, q2, q3, q4, q5, fun s vals hv => q6 s vals (by rw [hlen]; exact hv), h3, h4, h5, q7, h2⟩
    · cases h2
  · cases h

def isMark : List Stmt → Bool
  | [.Assign [.Name a _] (.List [] _) _, .For (.Name b _) (.Name c _) [.If (.BoolOp .And [.Compare (.Name d _) [.Eq] [.Constant (.str e) _ _] _, .BoolOp .Or [.UnaryOp .Not (.Name f _) _, .Call (.Name g _) [.Subscript (.Name h _) (.UnaryOp .USub (.Constant (.int i) _ _) _) _] [] _] _] _)
      [.Expr (.Call (.Attribute (.Name j _) k ap1) [.Constant (.str l) _ _] [] cp1) _] [.Expr (.Call (.Attribute (.Name m _) n ap2) [.Name o _] [] cp2) _] _] [] _, .Return (some (.Name q _)) _] =>
    a == ("out" : Str) && b == ("sign" : Str) && c == ("text" : Str) && d == ("sign" : Str) && e == strOf [121] && f == ("out" : Str) && g == ("_law_vowel" : Str) && h == ("out" : Str) && decide (i = 1) && j == ("out" : Str) && k == ("append" : Str) && l == strOf [89] &&
      m == ("out" : Str) && n == ("append" : Str) && o == ("sign" : Str) && q == ("out" : Str) && ap1.endLine == cp1.line && ap2.endLine == cp2.line
  | _ => false
theorem mark_of {l : List Stmt} (h : isMark l = true) : MarkBody l := by
  unfold isMark at h
  split at h
  · simp only [Bool.and_eq_true, beq_iff_eq, decide_eq_true_eq] at h
    obtain ⟨⟨⟨⟨⟨⟨⟨⟨⟨⟨⟨⟨⟨⟨⟨⟨⟨rfl, rfl⟩, rfl⟩, rfl⟩, rfl⟩, rfl⟩, rfl⟩, rfl⟩, rfl⟩, rfl⟩, rfl⟩, rfl⟩, rfl⟩, rfl⟩, rfl⟩, rfl⟩, h1⟩, h2⟩ := h
    exact .mk (by rw [h1]; exact beq_self_eq_true _) (by rw [h2]; exact beq_self_eq_true _)
  · cases h
def markB (K : Frag) : Bool := match K.lookup 638 with
  | some ⟨_, _, .func fd, _⟩ => headB K fd [("text" : Str)] && (match fd.body with | .stmts body => isMark body | _ => false) && fd.scope.names.lookup ("out" : Str) == some .local && fd.scope.names.lookup ("sign" : Str) == some .local && fd.scope.names.lookup ("_law_vowel" : Str) == some .globalImplicit
  | _ => false
theorem markFn_of {W : Wd} (h : markB W.K = true) : MarkFn W := by
  unfold markB at h
  split at h
  · rename_i oc od fd osl hl
    simp only [Bool.and_eq_true, beq_iff_eq] at h
    obtain ⟨⟨⟨⟨h1, h2⟩, h3⟩, h4⟩, h5⟩ := h
    split at h2
    · rename_i body hb
      obtain ⟨name, qual, params, scope, kV, doc, pm, an, cdv, ct, e, es, q1, q2, q3, q4, q5, q6, q7⟩ := head_of h1 hb
      rw [es] at h3 h4 h5
      rw [e] at hl
      exact ⟨name, qual, params, body, scope, .none, kV, doc, pm, an, cdv, ct, oc, od, osl, hl, q1, q2, q3, q4, q5, fun s v => q6 s [v] rfl, q7 _ (.head _), h3, h4, h5, mark_of h2⟩
    · cases h2
  · cases h

def vowB (K : Frag) : Bool := match K.lookup 631 with
  | some ⟨_, _, .func fd, _⟩ => headB K fd [("sign" : Str)] && (match fd.body with
    | .stmts [.Return (some (.Compare (.Name x _) [.In] [.List es _] _)) _] => x == ("sign" : Str) && constsAre vowelTx es
    | _ => false)
  | _ => false
theorem vowFn_of {W : Wd} (h : vowB W.K = true) : VowFn W := by
  unfold vowB at h
  split at h
  · rename_i oc od fd osl hl
    simp only [Bool.and_eq_true] at h
    obtain ⟨h1, h2⟩ := h
    split at h2
    · rename_i x p1 es lp cp rp hb
      simp only [Bool.and_eq_true, beq_iff_eq] at h2
      obtain ⟨rfl, h3⟩ := h2
      obtain ⟨name, qual, params, scope, kV, doc, pm, an, cdv, ct, e, es', q1, q2, q3, q4, q5, q6, q7⟩ := head_of h1 hb
      rw [e] at hl
      exact ⟨name, qual, params, scope, .none, kV, doc, pm, an, cdv, ct, oc, od, osl, "sign", es, lp, p1, cp, rp, hl, q1, q2, q3, q4, q5, fun s v => q6 s [v] rfl, q7 _ (.head _), by decide, constsAre_of h3⟩
    · cases h2
  · cases h
end Mine
end

section
open PySem PySem.W PySem.Calls PyProof.Rows
set_option Elab.async false
set_option maxRecDepth 100000
set_option linter.unusedVariables false
namespace Mine

def kfB (K : Frag) : Bool := hasDictIn K 527 && findIn K (.ref 527) "__setattr__" == some (some (.builtin "object.__setattr__")) && plainOver K 527 &&
  Fld.all.all fun f => plainGet K 527 f.name && (match findIn K (.ref 527) f.name with | some attr => noGet K attr | none => false) && takerIn K 527 f.name == some none
theorem all_fld (f : Fld) : f ∈ Fld.all := by cases f <;> decide
theorem kf_of {K : Frag} (h : kfB K = true) : KF K := by
  unfold kfB at h
  simp only [Bool.and_eq_true, beq_iff_eq] at h
  obtain ⟨⟨⟨h1, h2⟩, h3⟩, h4⟩ := h
  refine ⟨h1, h2, h3, fun f => ?_⟩
  have := List.all_eq_true.mp h4 f (all_fld f)
  simp only [Bool.and_eq_true, beq_iff_eq] at this
  obtain ⟨⟨a, b⟩, c⟩ := this
  refine ⟨a, ?_, c⟩
  split at b
  · rename_i attr e; exact ⟨attr, e, b⟩
  · cases b

def all2 (p : V → Value → Bool) : List V → List Value → Bool
  | [], [] => true
  | v :: vs, x :: xs => p v x && all2 p vs xs
  | _, _ => false
def amB (K : Frag) (a : Addr) (s : Tx) (sub res : Int) : Bool := decide (s.length ≤ 1000) && match K.lookup a with
  | some ⟨.ref c, some d, .plain, _⟩ => decide (c = 220) && (match K.lookup d with
    | some ⟨.type t, none, .dict es n, sl⟩ => t == "dict" && sl.isEmpty && (match getL "s" es.toList with | some (some (.str x _)) => decide (x = strOf s) | _ => false) && (match getL "substring_i" es.toList with | some (some (.int i _)) => decide (i = sub) | _ => false) && (match getL "result" es.toList with | some (some (.int i _)) => decide (i = res) | _ => false)
    | _ => false)
  | _ => false
def rvB (K : Frag) : Nat → V → Value → Bool
  | 0, _, _ => false
  | n + 1, v, x => match v, x with
    | .str s, .str y _ => decide (y = strOf s) && decide (s.length ≤ 1000)
    | .set k, .ref a => decide (a = if k then 233 else 232)
    | .list vs, .ref a => (match K.lookup a with | some ⟨.type t, _, .seq xs _, _⟩ => t == "list" && decide (vs.length ≤ 1000) && all2 (rvB K n) vs xs.toList | _ => false)
    | .tup vs, .ref a => (match K.lookup a with | some ⟨.type t, _, .seq xs _, _⟩ => t == "tuple" && decide (vs.length ≤ 1000) && all2 (rvB K n) vs xs.toList | _ => false)
    | .among s i r, .ref a => amB K a s i r
    | _, _ => false
theorem all2_of {p : V → Value → Bool} {R : V → Value → Prop} (hp : ∀ v x, p v x = true → R v x) : ∀ {vs : List V} {xs : List Value}, all2 p vs xs = true → xs.length = vs.length ∧ ∀ (i : Nat) (v : V) (x : Value), vs[i]? = some v → xs[i]? = some x → R v x
  | [], [], _ => ⟨rfl, fun i v x h => by simp at h⟩
  | [], _ :: _, h => by cases h
  | _ :: _, [], h => by cases h
  | v :: vs, x :: xs, h => by
    unfold all2 at h
    obtain ⟨h1, h2⟩ := Bool.and_eq_true_iff.mp h
    obtain ⟨a, b⟩ := all2_of hp h2
    refine ⟨by simp [a], fun i w y e1 e2 => ?_⟩
    cases i with
    | zero => simp at e1 e2; subst e1; subst e2; exact hp _ _ h1
    | succ i => exact b i w y (by simpa using e1) (by simpa using e2)
theorem am_of {K : Frag} {a : Addr} {s : Tx} {sub res : Int} (h : amB K a s sub res = true) : AmongAt K a s sub res := by
  unfold amB at h
  obtain ⟨hz, h⟩ := Bool.and_eq_true_iff.mp h
  split at h
  · rename_i c d sl hl
    obtain ⟨hc, h6⟩ := Bool.and_eq_true_iff.mp h
    obtain rfl := of_decide_eq_true hc
    clear h
    split at h6
    · rename_i t es n sl' hd
      obtain ⟨h7, h3⟩ := Bool.and_eq_true_iff.mp h6
      obtain ⟨h8, h2⟩ := Bool.and_eq_true_iff.mp h7
      obtain ⟨h9, h1⟩ := Bool.and_eq_true_iff.mp h8
      obtain ⟨h4, h5⟩ := Bool.and_eq_true_iff.mp h9
      obtain rfl := eq_of_beq h4
      obtain rfl := Array.isEmpty_iff.mp h5
      split at h1
      · rename_i x t1 e1
        have := of_decide_eq_true h1; subst this
        split at h2
        · rename_i i t2 e2
          have := of_decide_eq_true h2; subst this
          split at h3
          · rename_i j t3 e3
            have := of_decide_eq_true h3; subst this
            exact ⟨Nat.le_trans (of_decide_eq_true hz) (by decide), d, es.toList, n, t1, t2, t3, sl, hl, hd, e1, e2, e3⟩
          · cases h3
        · cases h2
      · cases h1
    · cases h6
  · cases h
theorem rv_of {K : Frag} {h : Heap} (X : K.In h) : ∀ (n : Nat) (v : V) (x : Value), rvB K n v x = true → Rv K none h v x
  | 0, _, _, e => by cases e
  | n + 1, v, x, e => by
    unfold rvB at e
    split at e
    · simp only [Bool.and_eq_true, decide_eq_true_eq] at e
      obtain ⟨rfl, hz⟩ := e
      exact .str _ _ (Nat.le_trans hz (by decide))
    · rw [of_decide_eq_true e]; exact .set _
    · split at e
      · rename_i t _ xs k sl hl
        simp only [Bool.and_eq_true, beq_iff_eq, decide_eq_true_eq] at e
        obtain ⟨⟨rfl, hz⟩, h2⟩ := e
        obtain ⟨a, b⟩ := all2_of (rv_of X n) h2
        exact .list (items := xs.toList) ⟨_, X _ _ hl, rfl, k, by simp⟩ a (Nat.le_trans hz (by decide)) b
      · cases e
    · split at e
      · rename_i t _ xs k sl hl
        simp only [Bool.and_eq_true, beq_iff_eq, decide_eq_true_eq] at e
        obtain ⟨⟨rfl, hz⟩, h2⟩ := e
        obtain ⟨a, b⟩ := all2_of (rv_of X n) h2
        exact .tup (items := xs.toList) ⟨_, X _ _ hl, rfl, k, by simp⟩ a (Nat.le_trans hz (by decide)) b
      · cases e
    · exact .among (am_of e)
    · cases e

def glbB (K : Frag) : Bool := (List.range 14).all fun k => match glbs[k]?, glbNames[k]? with
  | some v, some x => if k ≤ 10 then (match findCls K (.ref 527) (.type "type") x with | some (.val val) => rvB K 5 v val && handedIn val | _ => false)
    else (match nsIn K mainGlobals x with | some (some val) => rvB K 5 v val && handedIn val | _ => false)
  | _, _ => false
theorem glb_of' {K : Frag} {h : Heap} (X : K.In h) (e : glbB K = true) (k : Nat) (v : V) (x : Str) (h1 : glbs[k]? = some v) (h2 : glbNames[k]? = some x) :
    ∃ val, Rv K none h v val ∧ handedIn val = true ∧ (if k ≤ 10 then findCls K (.ref 527) (.type "type") x = some (.val val) else nsIn K mainGlobals x = some (some val)) := by
  have hk : k < 14 := (List.getElem?_eq_some_iff.mp h1).1
  have q := List.all_eq_true.mp e k (List.mem_range.mpr hk)
  rw [h1, h2] at q
  dsimp only at q
  split at q
  · rename_i hle
    split at q
    · rename_i val hv
      obtain ⟨a, b⟩ := Bool.and_eq_true_iff.mp q
      exact ⟨val, rv_of X 5 v val a, b, by rw [if_pos hle]; exact hv⟩
    · cases q
  · rename_i hle
    split at q
    · rename_i val hv
      obtain ⟨a, b⟩ := Bool.and_eq_true_iff.mp q
      exact ⟨val, rv_of X 5 v val a, b, by rw [if_neg hle]; exact hv⟩
    · cases q

def okB (K : Frag) : Bool := kfB K && (biNames.all fun x => nsIn K mainGlobals x == some none) && glbB K && nsIn K mainGlobals "PorterStemmer" == some (some (.ref 527)) && typeIn K (.ref 527) == some (.type "type") && readsIn K 527 (.type "type") &&
  hasDictIn K 220 && ((["s", "substring_i", "result"] : List Str).all fun x => plainGet K 220 x && findIn K (.ref 220) x == some none)
def setAt (h : Heap) (w : World) (p : Program) (a : Addr) (k : Bool) : Prop := ∃ o S n, h.get? a = some o ∧ o.SetObjOf (strKind p w) S n ∧ n < 4096 ∧ ∀ t : Tx, S (strOf t) = (setTx k).contains t
theorem ok_of {W : Wd} (h : okB W.K = true) (X : W.K.In W.hb) (T : Top W.Q W.loose W.mean W.mg W.mb W.hb) (h0 : setAt W.hb W.w W.p 232 false) (h1 : setAt W.hb W.w W.p 233 true) : Ok W := by
  unfold okB at h
  simp only [Bool.and_eq_true, beq_iff_eq] at h
  obtain ⟨⟨⟨⟨⟨⟨⟨a1, a2⟩, a3⟩, a4⟩, a5⟩, a6⟩, a7⟩, a8⟩ := h
  refine { kf := kf_of a1, X := X, T := T, bi := fun x hx => beq_iff_eq.mp (List.all_eq_true.mp a2 x hx), set := fun k => ?_, glb := glb_of' X a3, cls := a4, ctype := ⟨a5, a6⟩, am := ⟨a7, fun x hx => ?_⟩ }
  · cases k with
    | true => exact h1
    | false => exact h0
  · have := List.all_eq_true.mp a8 x hx
    simp only [Bool.and_eq_true, beq_iff_eq] at this
    exact this

def excBm : List Value := [.type "Exception", .type "BaseException", .type "object"]
def labB (K : Frag) : Bool := (List.range 3).all fun k => nsIn K mainGlobals (labName k) == some (some (Value.ref (labAddr k))) && excIn K (labAddr k) excBm "Exception.__new__"
def fnsB (K : Frag) : Bool := (List.range 35).all fun i => match fnTab[i]? with
  | some (b, x, fa) => keepIn K (.ref fa) && isFn K (.ref fa) && (if b then plainGet K 527 x && findIn K (.ref 527) x == some (some (.ref fa)) && (Fld.all.all fun fl => decide (x ≠ fl.name)) else nsIn K mainGlobals x == some (some (Value.ref fa)))
  | none => false
def bodiesB (K : Frag) : Bool := (List.range 35).all fun i => match fnTab[i]?, FNS[i]?, NMS[i]? with
  | some (_, _, fa), some (.ir np nl b), some nm => fnB K fa np nl (nm.map Str.ofString) b
  | _, some .marked, _ => true
  | _, _, _ => false
def factsB (K : Frag) : Bool := okB K && labB K && fnsB K && makesIn K 527 && findIn K (.ref 527) "__init__" == some (some (.ref 35)) && keepIn K (.ref 527) && bodiesB K && vowB K && markB K
theorem lab_of {K : Frag} (h : labB K = true) : ∀ k, nsIn K mainGlobals (labName k) = some (some (Value.ref (labAddr k))) ∧ excIn K (labAddr k) [.type "Exception", .type "BaseException", .type "object"] "Exception.__new__" = true := by
  have g : ∀ k, k < 3 → nsIn K mainGlobals (labName k) = some (some (Value.ref (labAddr k))) ∧ excIn K (labAddr k) excBm "Exception.__new__" = true := fun k hk => by
    have := List.all_eq_true.mp h k (List.mem_range.mpr hk)
    simp only [Bool.and_eq_true, beq_iff_eq] at this
    exact this
  intro k
  match k with
  | 0 => exact g 0 (by decide)
  | 1 => exact g 1 (by decide)
  | k + 2 => exact g 2 (by decide)
theorem facts_of {W : Wd} (h : factsB W.K = true) (X : W.K.In W.hb) (T : Top W.Q W.loose W.mean W.mg W.mb W.hb) (h0 : setAt W.hb W.w W.p 232 false) (h1 : setAt W.hb W.w W.p 233 true) : AllFn W := by
  unfold factsB at h
  simp only [Bool.and_eq_true, beq_iff_eq] at h
  obtain ⟨⟨⟨⟨⟨⟨⟨⟨a1, a2⟩, a3⟩, a4⟩, a5⟩, a6⟩, a7⟩, a8⟩, a9⟩ := h
  refine { ok := { lab := lab_of a2, ok := ok_of a1 X T h0 h1, fn := fun i b x fa hi => ?_, make := ⟨a4, a5, a6⟩ }, vow := vowFn_of a8, mark := markFn_of a9, fn := fun i bb x fa np nl b hi hf => ?_ }
  · have hk : i < 35 := (List.getElem?_eq_some_iff.mp hi).1
    have := List.all_eq_true.mp a3 i (List.mem_range.mpr hk)
    rw [hi] at this
    simp only [Bool.and_eq_true] at this
    obtain ⟨⟨b1, b2⟩, b3⟩ := this
    refine ⟨b1, b2, ?_⟩
    cases b with
    | true =>
      simp only [if_true, Bool.and_eq_true, beq_iff_eq] at b3 ⊢
      exact ⟨b3.1.1, b3.1.2, fun fl => of_decide_eq_true (List.all_eq_true.mp b3.2 fl (all_fld fl))⟩
    | false =>
      simp only [Bool.false_eq_true, if_false, beq_iff_eq] at b3 ⊢
      exact b3
  · have hk : i < 35 := (List.getElem?_eq_some_iff.mp hi).1
    have := List.all_eq_true.mp a7 i (List.mem_range.mpr hk)
    rw [hi, hf] at this
    split at this
    · rename_i q1 q2 q3
      cases q1; cases q2
      exact fn_of this
    · rename_i q; cases q
    · cases this
end Mine
end

section
open PySem PySem.W PySem.Calls PyProof.Rows
set_option Elab.async false
set_option maxRecDepth 100000
set_option linter.unusedVariables false
namespace Mine
section
variable {W : Wd} {d : Nat} {A' : Around}

/-- the law itself, called by the claim's caller -/
theorem top_sound (H : AllFn W) {s : Shared} (hb : W.hb = s.heap) (hos : s.os = W.os) (hg : s.gens = #[]) (hA : A'.frames = some []) (hh : A'.handled = none) (hdp : A'.depth + 4 * d + 20 ≤ 1000) (hun : A'.units + 16 * d + 100 ≤ 9900)
    {vs : List V} {vals : List Value} (r : RvL W.K none s.heap vs vals) {v : V} {σ' : Sta} (h : callN FNS (d + 1) 34 vs none = some (v, σ')) {R : Result → Shared → Prop}
    (P : ∀ s' L m g' val, Fr s.heap L s'.heap m → s'.gens = #[] → s'.os = s.os → Rv W.K g' s'.heap v val → R (.ok (.ret val)) s') : codeAny (model W.p W.w) A' (.call (.ref 671) ⟨vals, []⟩) R s := by
  unfold callN at h
  rw [show FNS[34]? = some (.ir 1 12 b34) from rfl] at h
  dsimp only at h
  split at h
  case isFalse => cases h
  rename_i hv
  obtain ⟨name, qual, params, body, scope, dV, kV, doc, pm, an, cdv, ct, oc, od, osl, nm, q1, q2, q3, q4, q5, q6, q7, q8, q9, q10, q11, q12⟩ := (H.fn 34 false "law" 671 1 12 b34 rfl rfl).shape
  have X : W.K.In s.heap := hb ▸ H.ok.ok.X
  have hlim : s.heap.NoLimit := hb ▸ H.ok.ok.T.nolimit
  have hlen : vals.length = 1 := by rw [r.len]; exact hv
  refine codeAny_call_def (binds := (nm.take 1).zip vals) (by show A'.depth < 1000; omega) (X _ _ q1) rfl hlim (codeRec_of X q2) rfl (q7 _ _ hlen) q6 (fun y hy => ?_) (fun h₀ hns k₀ => ?_) q4 q5 q3
  · exact q11 y.1 (List.of_mem_zip hy).1
  · have hle : 1 ≤ nm.length := by rw [q9]; exact q10
    have b : At W d ⟨qual, scope, s.heap.objs.size, 671, cdv, [], nm⟩ (A'.deeper (envOf qual scope s.heap.objs.size 671 cdv)) { s with heap := h₀, toks := s.toks + ((nm.take 1).zip vals).length } (vs ++ List.replicate (12 - 1) .undef) none none := by
      refine { fr := ⟨_, ⟨hns, fun b o e => k₀ b o (hb ▸ e), by rw [hb]; exact Nat.le_refl _⟩, ?_⟩, len := ?_, fo := (fun e he => by cases he), sr := ⟨⟨fun _ => rfl, fun _ => rfl⟩, (fun st x dx e => by cases e)⟩, off := (fun x dx e => by cases e), gens := hg, os := hos, kind := q3, handled := hh, frames := ?_, depth := ?_, units := ?_ }
      · intro i x v h1 h2 h3
        by_cases hi : i < 1
        · rw [List.getElem?_append_left (by omega)] at h2
          obtain ⟨val, hval⟩ : ∃ val, vals[i]? = some val := ⟨vals[i]'(by omega), List.getElem?_eq_getElem _⟩
          exact ⟨val, zip_at q8 hlen hle h1 hval, (r.at i v val h2 hval).ext (ext_grow none k₀) (.refl _)⟩
        · rw [List.getElem?_append_right (by omega)] at h2
          have := List.mem_of_getElem? h2
          exact absurd (List.eq_of_mem_replicate this) h3
      · show _ = nm.length
        rw [List.length_append, List.length_replicate]; omega
      · show A'.frames.map _ = _
        rw [hA]; rfl
      · show A'.depth + 1 + 4 * d + 8 ≤ 1000
        omega
      · show A'.units + 3 + 16 * d + 64 ≤ 9900
        omega
    have fin : ∀ {s' : Shared} {ρ' : List V} {σ₁ : Sta} {g' : G}, At W d ⟨qual, scope, s.heap.objs.size, 671, cdv, [], nm⟩ (A'.deeper (envOf qual scope s.heap.objs.size 671 cdv)) s' ρ' σ₁ g' → ∃ m, Fr s.heap s.heap.objs.size s'.heap m ∧ s'.gens = #[] ∧ s'.os = s.os := fun b' => by
      obtain ⟨m, F, _⟩ := b'.fr
      rw [hb] at F
      exact ⟨m, F, b'.gens, b'.os.trans hos.symm⟩
    cases he : exec (callN FNS d) b34 (vs ++ List.replicate (12 - 1) .undef) none with
    | none => rw [he] at h; cases h
    | some out =>
      obtain ⟨fl, ρ', σ₁⟩ := out
      rw [he] at h
      refine chkL_sound (f := ⟨qual, scope, s.heap.objs.size, 671, cdv, [], nm⟩) ⟨rfl, rfl⟩ q8 H.ok H.vow (sphi H d) _ body q12 _ _ none none fl ρ' σ₁ b he _ _ ?_
      cases fl with
      | ret u =>
        cases h
        intro s' g' val b' ex gl rv
        obtain ⟨m, F, e1, e2⟩ := fin b'
        exact P s' _ m g' val F e1 e2 rv
      | next =>
        cases h
        intro s' g' b' ex gl
        obtain ⟨m, F, e1, e2⟩ := fin b'
        exact P s' _ m g' .none F e1 e2 .none
      | brk => cases h
      | cont => cases h
      | exc k => cases h
end
end Mine
end

section
open PySem PySem.W PySem.Calls PyProof.Rows
set_option Elab.async false
set_option maxRecDepth 100000
set_option linter.unusedVariables false
namespace Mine
/-- the written objects that the walk reads -/
def AD : List Nat := [527, 526, 3, 199, 198, 220, 219, 2, 34, 35, 41, 42, 48, 49, 62, 63, 69, 70, 76, 77, 97, 98, 104, 105, 111, 112, 139, 140, 146, 147, 153, 154, 160, 161, 167, 168, 188, 189, 232, 233, 239, 240, 246, 247, 253, 254, 260, 261, 267, 268, 274, 275, 281, 282, 288, 289, 295, 296, 302, 303, 309, 310, 316, 317, 538, 539, 551, 552, 564, 565, 574, 575, 630, 631, 637, 638, 644, 645, 651, 652, 658, 659, 663, 664, 670, 671, 318, 319, 321, 322, 324, 325, 327, 328, 330, 331, 332, 333, 335, 336, 338, 339, 341, 342, 344, 345, 347, 348, 350, 351, 353, 354, 356, 357, 359, 360, 362, 363, 365, 366, 368, 369, 371, 372, 373, 375, 376, 378, 379, 381, 382, 383, 385, 386, 388, 389, 391, 392, 394, 395, 397, 398, 400, 401, 403, 404, 406, 407, 409, 410, 412, 413, 415, 416, 418, 419, 421, 422, 424, 425, 427, 428, 430, 431, 433, 434, 436, 437, 439, 440, 442, 443, 444, 445, 447, 448, 450, 451, 453, 454, 456, 457, 459, 460, 462, 463, 465, 466, 467, 468, 470, 471, 473, 474, 476, 477, 479, 480, 482, 483, 485, 486, 488, 489, 491, 492, 494, 495, 497, 498, 500, 501, 503, 504, 506, 507, 509, 510, 512, 513, 515, 516, 518, 519, 521, 522, 524, 576, 577, 578, 579, 580, 581, 582, 583, 584, 585, 586, 587, 588, 589, 590, 591, 592, 593, 594, 595, 596, 597, 598, 599, 600, 601, 602, 603, 604, 605, 606, 607, 608, 609, 610, 611, 612, 613, 614, 615, 616, 617, 618, 619, 620, 621, 622, 623, 624]
def fragOf (s : SharedT) : List Nat → Frag
  | [] => []
  | a :: r => match Nat.blt a s.n with
    | true => (match (s.tree.get a).bind alive with | some o => (a, o) :: fragOf s r | none => fragOf s r)
    | false => fragOf s r
theorem fragOf_in (s : SharedT) : ∀ as : List Nat, (fragOf s as).In s.abs.heap
  | [] => fun a o h => by cases h
  | a :: r => fun b o h => by
    unfold fragOf at h
    split at h
    · rename_i hlt
      split at h
      · rename_i o' e
        rw [List.lookup_cons] at h
        split at h
        · rename_i hb
          cases h
          have hb : b = a := by simpa using hb
          subst hb
          obtain ⟨o0, h1, h2⟩ := Option.bind_eq_some_iff.mp e
          show (absHeap s.tree s.n s.life).get? b = some o
          rw [abs_get (Nat.blt_eq.mp hlt) h1]
          exact h2
        · exact fragOf_in s r b o h
      · exact fragOf_in s r b o h
    · exact fragOf_in s r b o h
noncomputable section
def looseN : List Str := ["_wall", "__name__", "BaseStemmer", "Among", "PorterStemmer", "lab0", "lab1", "lab2", "_law_PIECES", "_law_TWO", "_law_THREE", "_law_FOUR", "_law_vowel", "_law_marked", "_law_region", "_law_short", "_law_longest", "_law_look"]
def Q0 : Program := view P0 [21]
def lk (P : Params) (s : Shared) := ((staticsOk (importedModules P0.main.body) (boot_heap P) s.heap && namesBound P0 s.heap && gensDone s && laidKept (boot_heap P) s.heap, openSeen Q0 looseN (importedModules P0.main.body) (fun _ => true) true s))
def setO (es : Array (Int × Value)) (ep : Nat) (t : SetTable) : Obj := { cls := .type "set", data := .set es ep t }
def c8 (w : World) (os : OsState) (es : Array (Int × Value)) (ep : Nat) (t : SetTable) (pos : Pos) (es' : Array (Int × Value)) (ep' : Nat) (t' : SetTable) (pos' : Pos) :=
  (r7 w os es ep t pos es' ep' t' pos').map (fun s => (lk w.params s.abs, factsB (fragOf s AD), (fragOf s [232, 233]).map (·.2)))
def c8' (es : Array (Int × Value)) (ep : Nat) (t : SetTable) (es' : Array (Int × Value)) (ep' : Nat) (t' : SetTable) := some ((true, openGood Q0 looseN), true, [setO es ep t, setO es' ep' t'])
theorem c8_self : c8 = c8 := rfl
theorem c8'_self : c8' = c8' := rfl
name_quick mineC8 for Mine.c8 by Mine.c8_self
name_quick mineC8' for Mine.c8' by Mine.c8'_self
theorem k8F : ∀ (w : World) os es ep t pos es' ep' t' pos', PySem.W.Fast.mineC8 (w.withFollow "special-get-raises" false) os es ep t pos es' ep' t' pos' = PySem.W.Fast.mineC8' es ep t es' ep' t' := fun w os es ep t pos es' ep' t' pos' => by kernel_rfl
end
end Mine
end

section
open PySem PySem.W PySem.Calls PyProof.Rows
set_option Elab.async false
set_option maxRecDepth 100000
set_option linter.unusedVariables false
namespace Mine
theorem k8T : ∀ (w : World) os es ep t pos es' ep' t' pos', PySem.W.Fast.mineC8 (w.withFollow "special-get-raises" true) os es ep t pos es' ep' t' pos' = PySem.W.Fast.mineC8' es ep t es' ep' t' := fun w os es ep t pos es' ep' t' pos' => by kernel_rfl

set_option linter.unusedVariables false in
theorem k8 (w : World) (os es ep t pos es' ep' t' pos') : c8 w os es ep t pos es' ep' t' pos' = c8' es ep t es' ep' t' := by
  rw [PySem.W.Fast.mineC8_eq]
  refine Eq.trans (byRow2 "special-get-raises" (P := fun w => PySem.W.Fast.mineC8 w os es ep t pos es' ep' t' pos' = PySem.W.Fast.mineC8' es ep t es' ep' t') (fun w => k8F w os es ep t pos es' ep' t' pos') (fun w => k8T w os es ep t pos es' ep' t' pos') w) ?_
  rw [← PySem.W.Fast.mineC8'_eq]

/-- the last state -/
noncomputable def S8 (w : World) (os : OsState) (es : Array (Int × Value)) (ep : Nat) (t : SetTable) (pos : Pos) (es' : Array (Int × Value)) (ep' : Nat) (t' : SetTable) (pos' : Pos) : Shared :=
  ((r7 w os es ep t pos es' ep' t' pos').getD (S1 w os)).abs
theorem frag_two {s : SharedT} {o o' : Obj} (h : (fragOf s [232, 233]).map (·.2) = [o, o']) : s.abs.heap.get? 232 = some o ∧ s.abs.heap.get? 233 = some o' := by
  have X := fragOf_in s [232, 233]
  have e : fragOf s [232, 233] = [(232, o), (233, o')] := by
    unfold fragOf at h ⊢
    split at h <;> (try split at h) <;> (unfold fragOf at h ⊢) <;> (split at h) <;> (try split at h) <;> simp_all [fragOf]
  rw [e] at X
  exact ⟨X 232 o rfl, X 233 o' rfl⟩
theorem r8 (w : World) (os es ep t pos es' ep' t' pos') : ∃ s, r7 w os es ep t pos es' ep' t' pos' = some s ∧ S8 w os es ep t pos es' ep' t' pos' = s.abs ∧ lk w.params s.abs = (true, openGood Q0 looseN) ∧
    ∃ K : Frag, factsB K = true ∧ K.In s.abs.heap ∧ s.abs.heap.get? 232 = some (setO es ep t) ∧ s.abs.heap.get? 233 = some (setO es' ep' t') := by
  have h := k8 w os es ep t pos es' ep' t' pos'
  unfold c8 c8' at h
  obtain ⟨s, h1, h2⟩ := Option.map_eq_some_iff.mp h
  obtain ⟨a, b, c⟩ : _ ∧ _ ∧ _ := by simpa only [Prod.mk.injEq] using h2
  obtain ⟨e1, e2⟩ := frag_two c
  exact ⟨s, h1, by unfold S8; rw [h1]; rfl, a, _, b, fragOf_in s AD, e1, e2⟩

theorem goT_run {tb : String → Option Builtin} {p : Program} {w : World} {n₀ : Nat} {ann : Option Value} {n N : Nat} {s s' : SharedT} {r : Shared} {t t' : Thread} (h : goT tb p w n₀ ann n s t = some (s', t'))
    (k : topRun tb p w n₀ ann N s'.abs t' = some r) : topRun tb p w n₀ ann (n + N) s.abs t = some r := go_top (goT_of h) k

theorem opt_of {α : Type} {x : Option α} {d : α} (h : x.isSome = true) : x = some (x.getD d) := by
  cases x with
  | none => cases h
  | some a => rfl
theorem opt_pair {α β : Type} {x : Option (α × β)} {d : α × β} {b : β} (h : x.map (·.2) = some b) : x = some ((x.getD d).1, b) := by
  cases x with
  | none => cases h
  | some a => obtain ⟨a, c⟩ := a; cases h; rfl

theorem mem_addAll (X : Str → Bool) : ∀ (cs : List TC) (k : Str), addAll X cs k = (X k || (cs.map (·.1)).contains k)
  | [], k => by simp [addAll]
  | c :: r, k => by
    rw [addAll, mem_addAll _ r k]
    simp only [List.map_cons, List.contains_cons]
    have : decide (k = c.1) = (k == c.1) := by
      cases h : (k == c.1) with
      | true => rw [beq_iff_eq.mp h]; simp
      | false => exact decide_eq_false (fun e => by rw [e, beq_self_eq_true] at h; cases h)
    rw [this, Bool.or_assoc]

def vowelSet : List Str := ["a", "e", "i", "o", "u", "y"]
def wxySet : List Str := ["Y", "a", "e", "i", "o", "u", "w", "x", "y"]

theorem main_Rn {w : World} {S : SharedT} (h : codeOk S = true) (hn : Nat.blt 230 S.n = true) : ∃ b, Rn treeTable P0 w 11 AN 2 (inMainModule cenv) S b S := by
  unfold codeOk at h
  split at h
  · rename_i c d vs sl ho
    split at h
    · rename_i x tk hv
      refine ⟨!P0.modules.any (fun (_, _, m) => m.file == x), ?_⟩
      unfold inMainModule
      rw [if_neg (by decide)]
      refine Rn.bind (k := 1) (l := 1) (a := vs) (S' := S) ?_ ?_
      · show Rn treeTable P0 w 11 AN 1 (fieldsOf (.ref 230)) S vs S
        unfold fieldsOf
        exact Rn.bind (k := 1) (l := 0) (Rn.load hn ho rfl) (Rn.pure _)
      · rw [hv]
        exact Rn.bind (k := 1) (l := 0) Rn.ask (Rn.pure _)
    · cases h
  · cases h
end Mine
end

section
open PySem PySem.W PySem.Calls PyProof.Rows
set_option Elab.async false
set_option maxRecDepth 100000
set_option linter.unusedVariables false
namespace Mine
theorem open_plain : opening P0 = plainProg P0.main.scope.names := by kernel_rfl
theorem fence_plain (s : Shared) : fenceModules? P0 s = some s := by kernel_rfl
theorem boot_size (w : World) : ((boot_heap w.params).isNs mainGlobals && (Array.mk [] : Array GenState).size == 0, (boot_heap w.params).objs.size, (boot_heap w.params).nsMap mainGlobals "__annotations__") = (true, 11, AN) := by kernel_rfl
theorem blockStart_body : blockStart clsBody cenv = (pure () : Sem Unit) := by kernel_rfl

theorem body_thread (w : World) (os : OsState) : bodyT w os = ⟨(execs clsBody cenv).wrap doneF (leaveH cenv) id id, cCode, pos2 w os, [FA w os, TF]⟩ := by
  unfold bodyT
  rw [body_wrap, blockStart_body]
  rfl

theorem S2_facts (w : World) (os : OsState) : codeOk (S2 w os) = true ∧ Nat.ble 11 (S2 w os).n = true ∧ (S2 w os).n = 232 ∧ (S2 w os).toks = 476 ∧ Room (S2 w os) := by
  refine sOk_facts fun o => ?_
  have h := k3 w os o
  rw [← PySem.W.Fast.mineC3_eq] at h
  exact h
theorem S5_facts (w : World) (os es ep t pos) : codeOk (S5 w os es ep t pos) = true ∧ Nat.ble 11 (S5 w os es ep t pos).n = true ∧ (S5 w os es ep t pos).n = 233 ∧ (S5 w os es ep t pos).toks = 489 ∧ Room (S5 w os es ep t pos) := by
  refine sOk_facts fun o => ?_
  have h := k6 w os es ep t pos o
  rw [← PySem.W.Fast.mineC6_eq] at h
  exact h

theorem step12 (w : World) (os : OsState) : topGo treeTable P0 w 11 AN 12 ⟨boot_heap w.params, Array.mk [], boot_drawn, boot_toks, os⟩ (topStub P0) = some ((S1 w os).abs, T1 w os) := by
  have h := k0 w os
  rw [← PySem.W.Fast.mineC0_eq, ← PySem.W.Fast.mineC0'_eq] at h
  have h : (r0 w os).map (·.1) = some (S1 w os).abs := h
  show r0 w os = _
  unfold T1 x0
  cases q : r0 w os with
  | none => rw [q] at h; cases h
  | some a => rw [q] at h; obtain ⟨a, b⟩ := a; cases h; rfl
theorem step2 (w : World) (os : OsState) : goT treeTable P0 w 11 AN 1322 (S1 w os) (T1 w os) = some (S2 w os, bodyT w os) := by
  have h := k2 w os
  rw [← PySem.W.Fast.mineC2_eq, ← PySem.W.Fast.mineC2'_eq] at h
  exact opt_pair (x := r2 w os) h
theorem step5 (w : World) (os es ep t pos) : goT treeTable P0 w 11 AN 8 (St (S2 w os) (.set es ep t) 488) (T4 w os pos) = some (S5 w os es ep t pos, T5 w os (pos5 w os es ep t pos)) := by
  have h := k5 w os es ep t pos
  rw [← PySem.W.Fast.mineC5_eq, ← PySem.W.Fast.mineC5'_eq] at h
  exact opt_pair (x := r5 w os es ep t pos) h

theorem blt_of {n m : Nat} (h : n < m) : Nat.blt n m = true := Nat.ble_eq.mpr h

theorem set1 (w : World) (os : OsState) : ∃ es ep t pos n, n ≤ 400 ∧ SetD w (.set es ep t) (fun k => vowelSet.contains k) 6 ∧
    goT treeTable P0 w 11 AN n (S2 w os) (bodyT w os) = some (St (S2 w os) (.set es ep t) 488, T4 w os pos) := by
  obtain ⟨h1, h2, h3, h4, h5⟩ := S2_facts w os
  obtain ⟨D, hD, n, hn, run⟩ := display_Rn (w := w) (S := S2 w os) cs1 sp1 cenv h5 h2 (main_Rn h1 (blt_of (by rw [h3]; decide))) road1 ones1 (by rw [len1]; decide)
  obtain ⟨es, ep, t, rfl, hrest⟩ := hD.is
  rw [h4, h3, len1] at run
  rw [len1] at hn
  have hX : addAll (fun _ => false) cs1 = fun k => vowelSet.contains k := by
    funext k; rw [mem_addAll, cs1_is]; rfl
  rw [hX, len1] at hD
  obtain ⟨m, hm, at_⟩ := (Rn.at (tb := treeTable) (p := P0) (w := w) (n₀ := 11) (ann := AN) (q := ap1) (S := S2 w os) : Rn treeTable P0 w 11 AN 1 (standAt ap1) (S2 w os) () (S2 w os))
  obtain ⟨p1, e1⟩ := at_ (fun _ => (eval setE1 cenv >>= asgK tg1 setE1).wrap K1 (leaveH cenv) id id) (leaveH cenv) id id clsBody cenv (pos2 w os) (FA w os) TF
  obtain ⟨p2, e2⟩ := run (fun v => (asgK tg1 setE1 v).wrap K1 (leaveH cenv) id id) (leaveH cenv) id id clsBody cenv p1 (FA w os) TF
  refine ⟨es, ep, t, p2, m + n, by omega, hD, ?_⟩
  rw [body_thread, body_eq, execs_cons_wrap, asg1, bind_wrap]
  refine goT_add e1 ?_
  rw [bind_wrap]
  exact e2

theorem set2 (w : World) (os es ep t pos) : ∃ es' ep' t' pos' n, n ≤ 500 ∧ SetD w (.set es' ep' t') (fun k => wxySet.contains k) 9 ∧
    goT treeTable P0 w 11 AN n (S5 w os es ep t pos) (T5 w os (pos5 w os es ep t pos)) = some (S6 w os es ep t pos es' ep' t', T6 w os pos') := by
  obtain ⟨h1, h2, h3, h4, h5⟩ := S5_facts w os es ep t pos
  obtain ⟨D, hD, n, hn, run⟩ := display_Rn (w := w) (S := S5 w os es ep t pos) cs2 sp2 cenv h5 h2 (main_Rn h1 (blt_of (by rw [h3]; decide))) road2 ones2 (by rw [len2]; decide)
  obtain ⟨es', ep', t', rfl, hrest⟩ := hD.is
  rw [h4, h3, len2] at run
  rw [len2] at hn
  have hX : addAll (fun _ => false) cs2 = fun k => wxySet.contains k := by
    funext k; rw [mem_addAll, cs2_is]; rfl
  rw [hX, len2] at hD
  obtain ⟨m, hm, at_⟩ := (Rn.at (tb := treeTable) (p := P0) (w := w) (n₀ := 11) (ann := AN) (q := ap2) (S := S5 w os es ep t pos) : Rn treeTable P0 w 11 AN 1 (standAt ap2) (S5 w os es ep t pos) () (S5 w os es ep t pos))
  obtain ⟨p1, e1⟩ := at_ (fun _ => (eval setE2 cenv >>= asgK tg2 setE2).wrap K2 (leaveH cenv) id id) (leaveH cenv) id id clsBody cenv (pos5 w os es ep t pos) (FA w os) TF
  obtain ⟨p2, e2⟩ := run (fun v => (asgK tg2 setE2 v).wrap K2 (leaveH cenv) id id) (leaveH cenv) id id clsBody cenv p1 (FA w os) TF
  refine ⟨es', ep', t', p2, m + n, by omega, hD, ?_⟩
  unfold T5
  rw [execs_cons_wrap, asg2, bind_wrap]
  refine goT_add e1 ?_
  rw [bind_wrap]
  exact e2

/-- what the top leaves -/
theorem top_run (w : World) : ∃ os es ep t pos es' ep' t' pos', SetD w (.set es ep t) (fun k => vowelSet.contains k) 6 ∧ SetD w (.set es' ep' t') (fun k => wxySet.contains k) 9 ∧
    openEnds treeTable P0 w 20000 = some (S8 w os es ep t pos es' ep' t' pos') ∧ openSeen Q0 looseN (importedModules P0.main.body) (fun _ => true) true (S8 w os es ep t pos es' ep' t' pos') = openGood Q0 looseN ∧
    ∃ K : Frag, factsB K = true ∧ K.In (S8 w os es ep t pos es' ep' t' pos').heap ∧ (S8 w os es ep t pos es' ep' t' pos').heap.get? 232 = some (setO es ep t) ∧ (S8 w os es ep t pos es' ep' t' pos').heap.get? 233 = some (setO es' ep' t') := by
  obtain ⟨s0, h0, e0⟩ := Option.map_eq_some_iff.mp (boot_open (p := P0) (N := 20000) open_plain (by decide) fence_plain w)
  obtain ⟨hp, gs, dr, tk, os⟩ := s0
  obtain ⟨rfl, rfl, rfl, rfl⟩ : hp = boot_heap w.params ∧ gs = Array.mk [] ∧ dr = boot_drawn ∧ tk = boot_toks := by simpa using e0
  obtain ⟨es, ep, t, pos, n1, hn1, hD1, g1⟩ := set1 w os
  obtain ⟨es', ep', t', pos', n2, hn2, hD2, g2⟩ := set2 w os es ep t pos
  obtain ⟨s, q1, q2, q3, qK⟩ := r8 w os es ep t pos es' ep' t' pos'
  refine ⟨os, es, ep, t, pos, es', ep', t', pos', hD1, hD2, ?_⟩
  rw [q2]
  have hrun : topRun treeTable P0 w 11 AN 13500 (S6 w os es ep t pos es' ep' t').abs (T6 w os pos') = some s.abs := runT_of q1
  have a := goT_run g2 hrun
  have a := goT_run (step5 w os es ep t pos) a
  have a := goT_run g1 a
  have a := goT_run (step2 w os) a
  have a := go_top (step12 w os) a
  have a := topRun_mono (20000 - (12 + (1322 + (n1 + (8 + (n2 + 13500)))))) _ _ _ _ a
  rw [show 12 + (1322 + (n1 + (8 + (n2 + 13500)))) + (20000 - (12 + (1322 + (n1 + (8 + (n2 + 13500)))))) = 20000 by omega] at a
  obtain ⟨z1, z2, z3⟩ : _ ∧ _ ∧ _ := by simpa only [Prod.mk.injEq] using boot_size w
  obtain ⟨l1, l2⟩ : _ ∧ _ := by simpa only [lk, Prod.mk.injEq] using q3
  refine ⟨?_, l2, qK⟩
  unfold openEnds
  rw [h0]
  show topFrom treeTable P0 w 20000 ⟨boot_heap w.params, Array.mk [], boot_drawn, boot_toks, os⟩ = _
  unfold topFrom
  dsimp only
  rw [z1, z2, z3]
  dsimp only
  rw [a]
  show (match _ with | true => some s.abs | false => none) = _
  rw [l1]
end Mine
end

section
open PySem PySem.W PySem.Calls PyProof.Rows
set_option Elab.async false
set_option maxRecDepth 100000
set_option linter.unusedVariables false
namespace Mine
theorem tx_str (x : Tx) : strOf x = ⟨x.toArray⟩ := rfl
/-- the set's data are what the walk asks of a set -/
theorem setAt_of {w : World} {h : Heap} {a : Addr} {k : Bool} {es : Array (Int × Value)} {ep : Nat} {t : SetTable} {X : Str → Bool} {n : Nat} (hD : SetD w (.set es ep t) X n) (hX : ∀ x : Tx, X (strOf x) = (setTx k).contains x) (hn : n < 4096)
    (ho : h.get? a = some (setO es ep t)) : setAt h w P0 a k := by
  refine ⟨_, X, n, ho, ?_, hn, hX⟩
  obtain ⟨es', ep', t', e, h1, h2, h3, h4, h5⟩ := hD.is
  cases e
  exact ⟨⟨rfl, rfl, rfl⟩, es, ep, t, rfl, h1, h2, h5, h4⟩
end Mine
end

section
set_option Elab.async false
set_option maxRecDepth 100000
set_option linter.unusedVariables false
set_option linter.unusedSimpArgs false
namespace Mine.C
/-- how far two texts go together -/
def lcp : Tx → Tx → Nat
  | a :: x, b :: y => if a = b then lcp x y + 1 else 0
  | _, _ => 0
/-- the first is not above the second -/
def leT : Tx → Tx → Bool
  | [], _ => true
  | _ :: _, [] => false
  | b :: r, a :: w => decide (b < a) || (decide (b = a) && leT r w)
/-- the inner loop's answer -/
def cf : Tx → Tx → Nat → Int × Nat
  | _, [], n => (0, n)
  | [], _ :: _, n => (-1, n)
  | a :: w, b :: r, n => if a = b then cf w r (n + 1) else ((a : Int) - (b : Int), n)
theorem cf_lcp : ∀ (w r : Tx) (n : Nat), (cf w r n).2 = n + lcp w r
  | w, [], n => by cases w <;> simp [cf, lcp]
  | [], _ :: _, n => by simp [cf, lcp]
  | a :: w, b :: r, n => by
    by_cases h : a = b
    · simp [cf, lcp, h, cf_lcp w r (n+1)]; omega
    · simp [cf, lcp, h]
theorem cf_le : ∀ (w r : Tx) (n : Nat), ((cf w r n).1 < 0 ↔ leT r w = false)
  | w, [], n => by cases w <;> simp [cf, leT]
  | [], _ :: _, n => by simp [cf, leT]
  | a :: w, b :: r, n => by
    by_cases h : a = b
    · simp [cf, leT, h, cf_le w r (n+1)]
    · simp [cf, leT, h]; omega
theorem lcp_drop : ∀ (m : Nat) (A B : Tx), m ≤ lcp A B → lcp A B = m + lcp (A.drop m) (B.drop m) ∧ leT B A = leT (B.drop m) (A.drop m)
  | 0, A, B, _ => by simp
  | m + 1, [], B, h => by simp [lcp] at h
  | m + 1, a :: A, [], h => by simp [lcp] at h
  | m + 1, a :: A, b :: B, h => by
    by_cases e : a = b
    · simp only [lcp, e, if_true] at h
      have := lcp_drop m A B (by omega)
      simp [lcp, leT, e]
      exact ⟨by omega, this.2⟩
    · simp [lcp, e] at h
theorem sandwich : ∀ (m : Nat) (W A B C : Tx), leT A B = true → leT B C = true → m ≤ lcp W A → m ≤ lcp W C → m ≤ lcp W B
  | 0, _, _, _, _, _, _, _, _ => by omega
  | m + 1, [], A, B, C, _, _, h, _ => by simp [lcp] at h
  | m + 1, w :: W, [], B, C, _, _, h, _ => by simp [lcp] at h
  | m + 1, w :: W, a :: A, B, [], _, _, _, h => by simp [lcp] at h
  | m + 1, w :: W, a :: A, [], c :: C, h1, _, _, _ => by simp [leT] at h1
  | m + 1, w :: W, a :: A, b :: B, c :: C, h1, h2, h3, h4 => by
    have e1 : w = a := by apply Classical.byContradiction; intro e; simp [lcp, e] at h3
    have e2 : w = c := by apply Classical.byContradiction; intro e; simp [lcp, e] at h4
    subst e1; subst e2
    simp [lcp] at h3 h4
    simp [leT] at h1 h2
    have e3 : w = b := by omega
    subst e3
    simp at h1 h2
    simp [lcp]
    exact sandwich m W A B C h1 h2 h3 h4
/-- a start of one is a start of the other just when they go together so far -/
theorem pre_lcp : ∀ (P A B : Tx), P.isPrefixOf A = true → (P.isPrefixOf B = true ↔ P.length ≤ lcp A B)
  | [], A, B, _ => by simp
  | p :: P, [], B, h => by simp [List.isPrefixOf] at h
  | p :: P, a :: A, [], h => by simp [List.isPrefixOf, lcp]
  | p :: P, a :: A, b :: B, h => by
    simp [List.isPrefixOf] at h
    obtain ⟨e, h⟩ := h
    have := pre_lcp P A B (by simpa using h)
    by_cases e2 : a = b
    · simp [List.isPrefixOf, lcp, e, e2] at this ⊢; exact this
    · simp [List.isPrefixOf, lcp, e, e2]
theorem pre_le : ∀ (P A : Tx), P.isPrefixOf A = true → leT P A = true
  | [], A, _ => by simp [leT]
  | p :: P, [], h => by simp [List.isPrefixOf] at h
  | p :: P, a :: A, h => by
    simp [List.isPrefixOf] at h
    simp [leT, h.1, pre_le P A (by simpa using h.2)]
theorem le_trans : ∀ (A B C : Tx), leT A B = true → leT B C = true → leT A C = true
  | [], B, C, _, _ => by simp [leT]
  | a :: A, [], C, h, _ => by simp [leT] at h
  | a :: A, b :: B, [], _, h => by simp [leT] at h
  | a :: A, b :: B, c :: C, h1, h2 => by
    simp [leT] at h1 h2 ⊢
    rcases h1 with h1 | ⟨e1, h1⟩ <;> rcases h2 with h2 | ⟨e2, h2⟩
    · left; omega
    · left; omega
    · left; omega
    · right; exact ⟨by omega, le_trans A B C h1 h2⟩
theorem pre_sandwich (P A C : Tx) (h1 : P.isPrefixOf C = true) (h2 : leT P A = true) (h3 : leT A C = true) : P.isPrefixOf A = true := by
  have := sandwich P.length P P A C h2 h3 ((pre_lcp P P P (by simp)).1 (by simp)) ((pre_lcp P P C (by simp)).1 h1)
  exact (pre_lcp P P A (by simp)).2 this
/-- a row of a table: its signs from behind, the next shorter row, its answer -/
abbrev Row := Tx × Int × Int
def rs (rows : List Row) (k : Nat) : Tx := ((rows[k]?).getD ([], 0, 0)).1.reverse
def sub (rows : List Row) (k : Nat) : Int := ((rows[k]?).getD ([], 0, 0)).2.1
def res (rows : List Row) (k : Nat) : Int := ((rows[k]?).getD ([], 0, 0)).2.2
def sortedB (rows : List Row) : Bool := (List.range rows.length).all fun a => (List.range rows.length).all fun b => decide (b < a) || leT (rs rows a) (rs rows b)
def chainB (rows : List Row) : Bool := (List.range rows.length).all fun i =>
  (decide (sub rows i < 0) && (List.range rows.length).all fun m => decide (m = i) || !(rs rows m).isPrefixOf (rs rows i)) ||
  (decide (0 ≤ sub rows i) && decide ((sub rows i).toNat < i) && (rs rows (sub rows i).toNat).isPrefixOf (rs rows i) && (List.range rows.length).all fun m => decide (m = i) || !(rs rows m).isPrefixOf (rs rows i) || (rs rows m).isPrefixOf (rs rows (sub rows i).toNat))
def smallB (rows : List Row) : Bool := rows.all fun r => decide (r.1.length ≤ 20)
def rowsOk (rows : List Row) : Bool := sortedB rows && chainB rows && smallB rows && decide (0 < rows.length) && decide (rows.length ≤ 50)
theorem sorted_of {rows : List Row} (h : sortedB rows = true) {a b : Nat} (hb : b < rows.length) (hab : a ≤ b) : leT (rs rows a) (rs rows b) = true := by
  simp [sortedB] at h
  rcases h a (by omega) b hb with h | h
  · omega
  · exact h
/-- the best row: the longest that ends the text -/
def Best (rows : List Row) (W : Tx) (o : Option Nat) : Prop := match o with
  | none => ∀ m, m < rows.length → (rs rows m).isPrefixOf W = false
  | some k => k < rows.length ∧ (rs rows k).isPrefixOf W = true ∧ ∀ m, m < rows.length → (rs rows m).isPrefixOf W = true → (rs rows m).isPrefixOf (rs rows k) = true
/-- the chain of ever shorter rows -/
def chain (rows : List Row) (c : Nat) : Nat → Int → Option Nat
  | 0, _ => none
  | n + 1, i => if i < 0 then none else if (rs rows i.toNat).length ≤ c then some i.toNat else chain rows c n (sub rows i.toNat)
theorem chain_best {rows : List Row} (hc : chainB rows = true) {W : Tx} {i : Nat} (hi : i < rows.length) (c : Nat) (hcc : c = lcp W (rs rows i)) (hA : ∀ m, m < rows.length → (rs rows m).isPrefixOf W = true → (rs rows m).isPrefixOf (rs rows i) = true) :
    ∀ (n k : Nat), k < n → k < rows.length → (rs rows k).isPrefixOf (rs rows i) = true → (∀ m, m < rows.length → (rs rows m).isPrefixOf W = true → (rs rows m).isPrefixOf (rs rows k) = true) → Best rows W (chain rows c n k)
  | 0, k, h, _, _, _ => by omega
  | n + 1, k, h, hk, hp, hm => by
    have hc' := hc
    have hcomm : ∀ A B : Tx, lcp A B = lcp B A := by
      intro A
      induction A with
      | nil => intro B; cases B <;> simp [lcp]
      | cons a A ih => intro B; cases B with
        | nil => simp [lcp]
        | cons b B => simp only [lcp]; rw [ih]; simp only [eq_comm]
    have hP := pre_lcp (rs rows k) (rs rows i) W hp
    rw [hcomm, ← hcc] at hP
    simp only [chain]
    rw [if_neg (by omega)]
    simp only [Int.toNat_natCast]
    by_cases hle : (rs rows k).length ≤ c
    · rw [if_pos hle]
      exact ⟨hk, hP.2 hle, hm⟩
    · rw [if_neg hle]
      have hnot : (rs rows k).isPrefixOf W = false := by
        cases hx : (rs rows k).isPrefixOf W
        · rfl
        · exact absurd (hP.1 hx) hle
      simp [chainB] at hc
      rcases hc k hk with ⟨h1, h2⟩ | ⟨⟨⟨h1, h2⟩, h3⟩, h4⟩
      · have : Best rows W none := by
          intro m hm'
          cases hx : (rs rows m).isPrefixOf W
          · rfl
          · have := hm m hm' hx
            rcases h2 m hm' with e | e
            · subst e; rw [hx] at hnot; cases hnot
            · rw [e] at this; cases this
        cases n with
        | zero => simpa [chain] using this
        | succ n => simp only [chain]; rw [if_pos h1]; exact this
      · have e : sub rows k = (((sub rows k).toNat : Nat) : Int) := by omega
        rw [e]
        refine chain_best hc' hi c hcc hA n (sub rows k).toNat (by omega) (by omega) ?_ ?_
        · rw [List.isPrefixOf_iff_prefix] at hp ⊢; exact List.IsPrefix.trans h3 hp
        · intro m hm' hx
          have := hm m hm' hx
          rcases h4 m hm' with (e | e) | e
          · subst e; rw [hx] at hnot; cases hnot
          · rw [e] at this; cases this
          · rw [List.isPrefixOf_iff_prefix]; exact e
end Mine.C
end

section
set_option Elab.async false
set_option maxRecDepth 100000
set_option linter.unusedVariables false
set_option linter.unusedSimpArgs false
namespace Mine.C
abbrev Phi := Nat → List V → Sta → Option (V × Sta)
/-- a stemmer with all its attributes -/
def mk (t : Tx) (c l lb bra ket p1 p2 : Int) : Sta := some ⟨some (.str t), some (.int c), some (.int l), some (.int lb), some (.int bra), some (.int ket), some (.int p1), some (.int p2)⟩
def isV (c : Nat) : Bool := vowelTx.contains [c]
def isW (c : Nat) : Bool := wxyTx.contains [c]
theorem inV (c : Nat) : (setTx false).contains [c] = isV c := rfl
theorem inW (c : Nat) : (setTx true).contains [c] = isW c := rfl
/-- the first place where a test holds -/
def fi (p : Nat → Bool) : Tx → Option Nat
  | [] => none
  | x :: r => if p x then some 0 else (fi p r).map (· + 1)
theorem idx_app (P R : Tx) (x : Nat) : idxV (.str (P ++ x :: R)) (.int (P.length : Int)) = some (.str [x]) := by
  simp [idxV]
theorem idx_sub (Q R : Tx) (x : Nat) : idxV (.str ((x :: Q).reverse ++ R)) (.int (((x :: Q).length : Int) - 1)) = some (.str [x]) := by
  have e : (((x :: Q).length : Int) - 1) = (Q.reverse.length : Int) := by simp
  rw [e, List.reverse_cons, List.append_assoc]
  exact idx_app _ _ _
theorem iterW_succ (t : List V → Sta → Option (Bool × Sta)) (b : List V → Sta → Out) (n : Nat) (ρ : List V) (σ : Sta) : iterW t b (n+1) ρ σ = (t ρ σ >>= fun x => if x.1 then (b ρ x.2 >>= fun y => match y.1 with | .next | .cont => iterW t b n y.2.1 y.2.2 | .brk => some (.next, y.2.1, y.2.2) | f => some (f, y.2.1, y.2.2)) else some (.next, ρ, x.2)) := rfl
theorem seq_next (Φ : Phi) {a b : S} {ρ ρ' : List V} {σ σ' : Sta} (h : exec Φ a ρ σ = some (.next, ρ', σ')) : exec Φ (.seq a b) ρ σ = exec Φ b ρ' σ' := by
  show (exec Φ a ρ σ >>= _) = _
  rw [h]; rfl
theorem seq_ret (Φ : Phi) {a b : S} {ρ ρ' : List V} {σ σ' : Sta} {v : V} (h : exec Φ a ρ σ = some (.ret v, ρ', σ')) : exec Φ (.seq a b) ρ σ = some (.ret v, ρ', σ') := by
  show (exec Φ a ρ σ >>= _) = _
  rw [h]; rfl
theorem whl_of (Φ : Phi) (t : T) (a : S) (ρ : List V) (σ : Sta) : exec Φ (.whl t a) ρ σ = iterW (fun ρ σ => evalT Φ ρ t σ) (fun ρ σ => exec Φ a ρ σ) 1000 ρ σ := rfl
-- tests at the cursor, backward
theorem call2 (d : Nat) (a b : V) (σ : Sta) : callN FNS (d+1) 2 [a, b] σ = retOf (exec (callN FNS d) b2 [a, b] σ) := rfl
theorem call4 (d : Nat) (a b : V) (σ : Sta) : callN FNS (d+1) 4 [a, b] σ = retOf (exec (callN FNS d) b4 [a, b] σ) := rfl
theorem call0 (d : Nat) (a b : V) (σ : Sta) : callN FNS (d+1) 0 [a, b] σ = retOf (exec (callN FNS d) b0 [a, b] σ) := rfl
theorem igb_0 (d : Nat) (t : Tx) (c l lb bra ket p1 p2 : Int) (k : Bool) (h2 : c ≤ lb) : callN FNS (d + 1) 2 [.slf, .set k] (mk t c l lb bra ket p1 p2) = some (.bool false, mk t c l lb bra ket p1 p2) := by
  simp only [exec, evalX, evalXs, evalT, locV, mk, Stem.get, Stem.put, truthV, cmpV, retOf, binV, insetV, inlV, negV, minV, lenV, aatV, flat, setL, List.getElem?_cons_zero, List.getElem?_cons_succ, List.set_cons_zero, List.set_cons_succ, List.length_cons, List.length_nil, List.replicate, List.cons_append, List.nil_append, Nat.reduceAdd, Nat.reduceSub, Nat.reduceLT, Nat.reduceEqDiff, Option.bind_eq_bind, Option.bind_some, Option.map_some, decide_true, decide_false, ↓reduceIte, bne_self_eq_false, Bool.bne_true, Bool.bne_false, Bool.not_true, Bool.not_false, Bool.false_eq_true, call2, b2, h2]
theorem igb_1 (d : Nat) (t : Tx) (c l lb bra ket p1 p2 : Int) (k : Bool) (x : Nat) (h2 : ¬ c ≤ lb) (hx : idxV (.str t) (.int (c - 1)) = some (.str [x])) : callN FNS (d + 1) 2 [.slf, .set k] (mk t c l lb bra ket p1 p2) =
   if (setTx k).contains [x] then some (.bool true, mk t (c-1) l lb bra ket p1 p2) else some (.bool false, mk t c l lb bra ket p1 p2) := by
  cases h3 : (setTx k).contains [x] <;> simp only [exec, evalX, evalXs, evalT, locV, mk, Stem.get, Stem.put, truthV, cmpV, retOf, binV, insetV, inlV, negV, minV, lenV, aatV, flat, setL, List.getElem?_cons_zero, List.getElem?_cons_succ, List.set_cons_zero, List.set_cons_succ, List.length_cons, List.length_nil, List.replicate, List.cons_append, List.nil_append, Nat.reduceAdd, Nat.reduceSub, Nat.reduceLT, Nat.reduceEqDiff, Option.bind_eq_bind, Option.bind_some, Option.map_some, decide_true, decide_false, ↓reduceIte, bne_self_eq_false, Bool.bne_true, Bool.bne_false, Bool.not_true, Bool.not_false, Bool.false_eq_true, call2, b2, h2, h3, hx]
theorem ogb_0 (d : Nat) (t : Tx) (c l lb bra ket p1 p2 : Int) (k : Bool) (h2 : c ≤ lb) : callN FNS (d + 1) 4 [.slf, .set k] (mk t c l lb bra ket p1 p2) = some (.bool false, mk t c l lb bra ket p1 p2) := by
  simp only [exec, evalX, evalXs, evalT, locV, mk, Stem.get, Stem.put, truthV, cmpV, retOf, binV, insetV, inlV, negV, minV, lenV, aatV, flat, setL, List.getElem?_cons_zero, List.getElem?_cons_succ, List.set_cons_zero, List.set_cons_succ, List.length_cons, List.length_nil, List.replicate, List.cons_append, List.nil_append, Nat.reduceAdd, Nat.reduceSub, Nat.reduceLT, Nat.reduceEqDiff, Option.bind_eq_bind, Option.bind_some, Option.map_some, decide_true, decide_false, ↓reduceIte, bne_self_eq_false, Bool.bne_true, Bool.bne_false, Bool.not_true, Bool.not_false, Bool.false_eq_true, call4, b4, h2]
theorem ogb_1 (d : Nat) (t : Tx) (c l lb bra ket p1 p2 : Int) (k : Bool) (x : Nat) (h2 : ¬ c ≤ lb) (hx : idxV (.str t) (.int (c - 1)) = some (.str [x])) : callN FNS (d + 1) 4 [.slf, .set k] (mk t c l lb bra ket p1 p2) =
   if (setTx k).contains [x] then some (.bool false, mk t c l lb bra ket p1 p2) else some (.bool true, mk t (c-1) l lb bra ket p1 p2) := by
  cases h3 : (setTx k).contains [x] <;> simp only [exec, evalX, evalXs, evalT, locV, mk, Stem.get, Stem.put, truthV, cmpV, retOf, binV, insetV, inlV, negV, minV, lenV, aatV, flat, setL, List.getElem?_cons_zero, List.getElem?_cons_succ, List.set_cons_zero, List.set_cons_succ, List.length_cons, List.length_nil, List.replicate, List.cons_append, List.nil_append, Nat.reduceAdd, Nat.reduceSub, Nat.reduceLT, Nat.reduceEqDiff, Option.bind_eq_bind, Option.bind_some, Option.map_some, decide_true, decide_false, ↓reduceIte, bne_self_eq_false, Bool.bne_true, Bool.bne_false, Bool.not_true, Bool.not_false, Bool.false_eq_true, call4, b4, h2, h3, hx]
theorem ig_0 (d : Nat) (t : Tx) (c l lb bra ket p1 p2 : Int) (k : Bool) (h2 : l ≤ c) : callN FNS (d + 1) 0 [.slf, .set k] (mk t c l lb bra ket p1 p2) = some (.bool false, mk t c l lb bra ket p1 p2) := by
  simp only [exec, evalX, evalXs, evalT, locV, mk, Stem.get, Stem.put, truthV, cmpV, retOf, binV, insetV, inlV, negV, minV, lenV, aatV, flat, setL, List.getElem?_cons_zero, List.getElem?_cons_succ, List.set_cons_zero, List.set_cons_succ, List.length_cons, List.length_nil, List.replicate, List.cons_append, List.nil_append, Nat.reduceAdd, Nat.reduceSub, Nat.reduceLT, Nat.reduceEqDiff, Option.bind_eq_bind, Option.bind_some, Option.map_some, decide_true, decide_false, ↓reduceIte, bne_self_eq_false, Bool.bne_true, Bool.bne_false, Bool.not_true, Bool.not_false, Bool.false_eq_true, call0, b0, h2]
theorem ig_1 (d : Nat) (t : Tx) (c l lb bra ket p1 p2 : Int) (k : Bool) (x : Nat) (h2 : ¬ l ≤ c) (hx : idxV (.str t) (.int c) = some (.str [x])) : callN FNS (d + 1) 0 [.slf, .set k] (mk t c l lb bra ket p1 p2) =
   if (setTx k).contains [x] then some (.bool true, mk t (c+1) l lb bra ket p1 p2) else some (.bool false, mk t c l lb bra ket p1 p2) := by
  cases h3 : (setTx k).contains [x] <;> simp only [exec, evalX, evalXs, evalT, locV, mk, Stem.get, Stem.put, truthV, cmpV, retOf, binV, insetV, inlV, negV, minV, lenV, aatV, flat, setL, List.getElem?_cons_zero, List.getElem?_cons_succ, List.set_cons_zero, List.set_cons_succ, List.length_cons, List.length_nil, List.replicate, List.cons_append, List.nil_append, Nat.reduceAdd, Nat.reduceSub, Nat.reduceLT, Nat.reduceEqDiff, Option.bind_eq_bind, Option.bind_some, Option.map_some, decide_true, decide_false, ↓reduceIte, bne_self_eq_false, Bool.bne_true, Bool.bne_false, Bool.not_true, Bool.not_false, Bool.false_eq_true, call0, b0, h2, h3, hx]
-- the forward scans
theorem scan_f (Φ : Phi) (neg : Bool) (t : Tx) (lb bra ket p1 p2 : Int) : ∀ (R P : Tx) (n : Nat), t = P ++ R → R.length < n →
    iterW (fun ρ σ => evalT Φ ρ (.x (.cmp .lt (.fld 0 .c) (.fld 0 .l))) σ) (fun ρ σ => exec Φ (.seq (.ife (.x (.inset neg (.idx (.fld 0 .cur) (.fld 0 .c)) (.loc 1))) (.seq (.ret (.cst (.bool true))) .skip) .skip) (.seq (.augf 0 .c .add (.cst (.int 1))) .skip)) ρ σ) n [.slf, .set false] (mk t (P.length : Int) (t.length : Int) lb bra ket p1 p2)
    = match fi (fun x => neg != isV x) R with
      | some j => some (.ret (.bool true), [.slf, .set false], mk t ((P.length + j : Nat) : Int) (t.length : Int) lb bra ket p1 p2)
      | none => some (.next, [.slf, .set false], mk t (t.length : Int) (t.length : Int) lb bra ket p1 p2) := by
  intro R
  induction R with
  | nil =>
    intro P n ht hn
    obtain ⟨n, rfl⟩ : ∃ m, n = m + 1 := ⟨n - 1, by simp at hn; omega⟩
    have e : t.length = P.length := by simp [ht]
    have h1 : ¬ ((P.length : Int) < (P.length : Int)) := by omega
    rw [iterW_succ, e]
    simp only [exec, evalX, evalXs, evalT, locV, mk, Stem.get, Stem.put, truthV, cmpV, retOf, binV, insetV, inlV, negV, minV, lenV, aatV, flat, setL, List.getElem?_cons_zero, List.getElem?_cons_succ, List.set_cons_zero, List.set_cons_succ, List.length_cons, List.length_nil, List.replicate, List.cons_append, List.nil_append, Nat.reduceAdd, Nat.reduceSub, Nat.reduceLT, Nat.reduceEqDiff, Option.bind_eq_bind, Option.bind_some, Option.map_some, decide_true, decide_false, ↓reduceIte, bne_self_eq_false, Bool.bne_true, Bool.bne_false, Bool.not_true, Bool.not_false, Bool.false_eq_true, fi, h1]
  | cons x R ih =>
    intro P n ht hn
    obtain ⟨n, rfl⟩ : ∃ m, n = m + 1 := ⟨n - 1, by simp at hn; omega⟩
    have e : t.length = P.length + (R.length + 1) := by simp [ht]
    have h1 : ((P.length : Int) < (t.length : Int)) := by omega
    have hx : idxV (.str t) (.int (P.length : Int)) = some (.str [x]) := by rw [ht]; exact idx_app _ _ _
    rw [iterW_succ]
    cases h3 : (neg != isV x)
    · have h4 : (neg != (setTx false).contains [x]) = false := h3
      have hc : ((P.length : Int) + 1) = (((P ++ [x]).length : Nat) : Int) := by simp
      simp only [exec, evalX, evalXs, evalT, locV, mk, Stem.get, Stem.put, truthV, cmpV, retOf, binV, insetV, inlV, negV, minV, lenV, aatV, flat, setL, List.getElem?_cons_zero, List.getElem?_cons_succ, List.set_cons_zero, List.set_cons_succ, List.length_cons, List.length_nil, List.replicate, List.cons_append, List.nil_append, Nat.reduceAdd, Nat.reduceSub, Nat.reduceLT, Nat.reduceEqDiff, Option.bind_eq_bind, Option.bind_some, Option.map_some, decide_true, decide_false, ↓reduceIte, bne_self_eq_false, Bool.bne_true, Bool.bne_false, Bool.not_true, Bool.not_false, Bool.false_eq_true, fi, h1, hx, h3, h4]
      rw [hc]
      have := ih (P ++ [x]) n (by rw [ht]; simp) (by simp at hn; omega)
      simp only [exec, evalX, evalXs, evalT, locV, mk, Stem.get, Stem.put, truthV, cmpV, retOf, binV, insetV, inlV, negV, minV, lenV, aatV, flat, setL, List.getElem?_cons_zero, List.getElem?_cons_succ, List.set_cons_zero, List.set_cons_succ, List.length_cons, List.length_nil, List.replicate, List.cons_append, List.nil_append, Nat.reduceAdd, Nat.reduceSub, Nat.reduceLT, Nat.reduceEqDiff, Option.bind_eq_bind, Option.bind_some, Option.map_some, decide_true, decide_false, ↓reduceIte, bne_self_eq_false, Bool.bne_true, Bool.bne_false, Bool.not_true, Bool.not_false, Bool.false_eq_true] at this
      rw [this]
      cases h5 : fi (fun x => neg != isV x) R with
      | none => simp only [Option.map_none]
      | some j =>
        simp only [Option.map_some]
        have e : (((P ++ [x]).length + j : Nat) : Int) = ((P.length + (j + 1) : Nat) : Int) := by simp; omega
        rw [e]
    · have h4 : (neg != (setTx false).contains [x]) = true := h3
      simp only [exec, evalX, evalXs, evalT, locV, mk, Stem.get, Stem.put, truthV, cmpV, retOf, binV, insetV, inlV, negV, minV, lenV, aatV, flat, setL, List.getElem?_cons_zero, List.getElem?_cons_succ, List.set_cons_zero, List.set_cons_succ, List.length_cons, List.length_nil, List.replicate, List.cons_append, List.nil_append, Nat.reduceAdd, Nat.reduceSub, Nat.reduceLT, Nat.reduceEqDiff, Option.bind_eq_bind, Option.bind_some, Option.map_some, decide_true, decide_false, ↓reduceIte, bne_self_eq_false, Bool.bne_true, Bool.bne_false, Bool.not_true, Bool.not_false, Bool.false_eq_true, fi, h1, hx, h3, h4, Nat.add_zero]
theorem call1 (d : Nat) (a b : V) (σ : Sta) : callN FNS (d+1) 1 [a, b] σ = retOf (exec (callN FNS d) b1 [a, b] σ) := rfl
theorem call3 (d : Nat) (a b : V) (σ : Sta) : callN FNS (d+1) 3 [a, b] σ = retOf (exec (callN FNS d) b3 [a, b] σ) := rfl
theorem gig (d : Nat) (t P R : Tx) (lb bra ket p1 p2 : Int) (ht : t = P ++ R) (hn : R.length < 1000) : callN FNS (d+1) 1 [.slf, .set false] (mk t (P.length : Int) (t.length : Int) lb bra ket p1 p2) = match fi (fun x => !isV x) R with
      | some j => some (.bool true, mk t ((P.length + j : Nat) : Int) (t.length : Int) lb bra ket p1 p2)
      | none => some (.bool false, mk t (t.length : Int) (t.length : Int) lb bra ket p1 p2) := by
  have := scan_f (callN FNS d) true t lb bra ket p1 p2 R P 1000 ht hn
  rw [call1]
  unfold b1
  rw [show (fun x => !isV x) = (fun x => true != isV x) from by funext x; simp]
  cases h5 : fi (fun x => true != isV x) R with
  | none =>
    rw [h5] at this
    rw [seq_next _ ((whl_of ..).trans this)]
    simp only [exec, evalX, evalXs, evalT, locV, mk, Stem.get, Stem.put, truthV, cmpV, retOf, binV, insetV, inlV, negV, minV, lenV, aatV, flat, setL, List.getElem?_cons_zero, List.getElem?_cons_succ, List.set_cons_zero, List.set_cons_succ, List.length_cons, List.length_nil, List.replicate, List.cons_append, List.nil_append, Nat.reduceAdd, Nat.reduceSub, Nat.reduceLT, Nat.reduceEqDiff, Option.bind_eq_bind, Option.bind_some, Option.map_some, decide_true, decide_false, ↓reduceIte, bne_self_eq_false, Bool.bne_true, Bool.bne_false, Bool.not_true, Bool.not_false, Bool.false_eq_true]
  | some j =>
    rw [h5] at this
    rw [seq_ret _ ((whl_of ..).trans this)]
    simp only [exec, evalX, evalXs, evalT, locV, mk, Stem.get, Stem.put, truthV, cmpV, retOf, binV, insetV, inlV, negV, minV, lenV, aatV, flat, setL, List.getElem?_cons_zero, List.getElem?_cons_succ, List.set_cons_zero, List.set_cons_succ, List.length_cons, List.length_nil, List.replicate, List.cons_append, List.nil_append, Nat.reduceAdd, Nat.reduceSub, Nat.reduceLT, Nat.reduceEqDiff, Option.bind_eq_bind, Option.bind_some, Option.map_some, decide_true, decide_false, ↓reduceIte, bne_self_eq_false, Bool.bne_true, Bool.bne_false, Bool.not_true, Bool.not_false, Bool.false_eq_true]
theorem gog (d : Nat) (t P R : Tx) (lb bra ket p1 p2 : Int) (ht : t = P ++ R) (hn : R.length < 1000) : callN FNS (d+1) 3 [.slf, .set false] (mk t (P.length : Int) (t.length : Int) lb bra ket p1 p2) = match fi isV R with
      | some j => some (.bool true, mk t ((P.length + j : Nat) : Int) (t.length : Int) lb bra ket p1 p2)
      | none => some (.bool false, mk t (t.length : Int) (t.length : Int) lb bra ket p1 p2) := by
  have := scan_f (callN FNS d) false t lb bra ket p1 p2 R P 1000 ht hn
  rw [call3]
  unfold b3
  rw [show isV = (fun x => false != isV x) from by funext x; simp]
  cases h5 : fi (fun x => false != isV x) R with
  | none =>
    rw [h5] at this
    rw [seq_next _ ((whl_of ..).trans this)]
    simp only [exec, evalX, evalXs, evalT, locV, mk, Stem.get, Stem.put, truthV, cmpV, retOf, binV, insetV, inlV, negV, minV, lenV, aatV, flat, setL, List.getElem?_cons_zero, List.getElem?_cons_succ, List.set_cons_zero, List.set_cons_succ, List.length_cons, List.length_nil, List.replicate, List.cons_append, List.nil_append, Nat.reduceAdd, Nat.reduceSub, Nat.reduceLT, Nat.reduceEqDiff, Option.bind_eq_bind, Option.bind_some, Option.map_some, decide_true, decide_false, ↓reduceIte, bne_self_eq_false, Bool.bne_true, Bool.bne_false, Bool.not_true, Bool.not_false, Bool.false_eq_true]
  | some j =>
    rw [h5] at this
    rw [seq_ret _ ((whl_of ..).trans this)]
    simp only [exec, evalX, evalXs, evalT, locV, mk, Stem.get, Stem.put, truthV, cmpV, retOf, binV, insetV, inlV, negV, minV, lenV, aatV, flat, setL, List.getElem?_cons_zero, List.getElem?_cons_succ, List.set_cons_zero, List.set_cons_succ, List.length_cons, List.length_nil, List.replicate, List.cons_append, List.nil_append, Nat.reduceAdd, Nat.reduceSub, Nat.reduceLT, Nat.reduceEqDiff, Option.bind_eq_bind, Option.bind_some, Option.map_some, decide_true, decide_false, ↓reduceIte, bne_self_eq_false, Bool.bne_true, Bool.bne_false, Bool.not_true, Bool.not_false, Bool.false_eq_true]
-- the backward scan
theorem scan_b (Φ : Phi) (t : Tx) (l bra ket p1 p2 : Int) : ∀ (Q R : Tx) (n : Nat), t = Q.reverse ++ R → Q.length < n →
    ∃ c', 0 ≤ c' ∧ c' ≤ (Q.length : Int) ∧ iterW (fun ρ σ => evalT Φ ρ (.x (.cmp .gt (.fld 0 .c) (.fld 0 .lb))) σ) (fun ρ σ => exec Φ (.seq (.ife (.x (.inset false (.idx (.fld 0 .cur) (.bin .sub (.fld 0 .c) (.cst (.int 1)))) (.loc 1))) (.seq (.ret (.cst (.bool true))) .skip) .skip) (.seq (.augf 0 .c .sub (.cst (.int 1))) .skip)) ρ σ) n [.slf, .set false] (mk t (Q.length : Int) l 0 bra ket p1 p2)
    = if Q.any isV then some (.ret (.bool true), [.slf, .set false], mk t c' l 0 bra ket p1 p2)
      else some (.next, [.slf, .set false], mk t c' l 0 bra ket p1 p2) := by
  intro Q
  induction Q with
  | nil =>
    intro R n ht hn
    obtain ⟨n, rfl⟩ : ∃ m, n = m + 1 := ⟨n - 1, by simp at hn; omega⟩
    have h1 : ¬ ((0 : Int) < ((0 : Nat) : Int)) := by omega
    refine ⟨0, by omega, by simp, ?_⟩
    rw [iterW_succ]
    simp only [exec, evalX, evalXs, evalT, locV, mk, Stem.get, Stem.put, truthV, cmpV, retOf, binV, insetV, inlV, negV, minV, lenV, aatV, flat, setL, List.getElem?_cons_zero, List.getElem?_cons_succ, List.set_cons_zero, List.set_cons_succ, List.length_cons, List.length_nil, List.replicate, List.cons_append, List.nil_append, Nat.reduceAdd, Nat.reduceSub, Nat.reduceLT, Nat.reduceEqDiff, Option.bind_eq_bind, Option.bind_some, Option.map_some, decide_true, decide_false, ↓reduceIte, bne_self_eq_false, Bool.bne_true, Bool.bne_false, Bool.not_true, Bool.not_false, Bool.false_eq_true, h1, List.any_nil]
    rfl
  | cons x Q ih =>
    intro R n ht hn
    obtain ⟨n, rfl⟩ : ∃ m, n = m + 1 := ⟨n - 1, by simp at hn; omega⟩
    have h1 : ((0 : Int) < (((x :: Q).length : Nat) : Int)) := by rw [List.length_cons]; omega
    have hx : idxV (.str t) (.int ((((x :: Q).length : Nat) : Int) - 1)) = some (.str [x]) := by rw [ht]; exact idx_sub _ _ _
    cases h3 : isV x
    · obtain ⟨c', k0, k1, k2⟩ := ih (x :: R) n (by rw [ht]; simp) (by simp at hn; omega)
      refine ⟨c', k0, by simp; omega, ?_⟩
      rw [iterW_succ]
      have h4 : (false != (setTx false).contains [x]) = false := by rw [inV, h3]; rfl
      have hc : ((((x :: Q).length : Nat) : Int) - 1) = (Q.length : Int) := by simp
      generalize hL : (((x :: Q).length : Nat) : Int) = L at *
      simp only [exec, evalX, evalXs, evalT, locV, mk, Stem.get, Stem.put, truthV, cmpV, retOf, binV, insetV, inlV, negV, minV, lenV, aatV, flat, setL, List.getElem?_cons_zero, List.getElem?_cons_succ, List.set_cons_zero, List.set_cons_succ, List.length_cons, List.length_nil, List.replicate, List.cons_append, List.nil_append, Nat.reduceAdd, Nat.reduceSub, Nat.reduceLT, Nat.reduceEqDiff, Option.bind_eq_bind, Option.bind_some, Option.map_some, decide_true, decide_false, ↓reduceIte, bne_self_eq_false, Bool.bne_true, Bool.bne_false, Bool.not_true, Bool.not_false, Bool.false_eq_true, h1, hx, h4]
      rw [hc]
      simp only [exec, evalX, evalXs, evalT, locV, mk, Stem.get, Stem.put, truthV, cmpV, retOf, binV, insetV, inlV, negV, minV, lenV, aatV, flat, setL, List.getElem?_cons_zero, List.getElem?_cons_succ, List.set_cons_zero, List.set_cons_succ, List.length_cons, List.length_nil, List.replicate, List.cons_append, List.nil_append, Nat.reduceAdd, Nat.reduceSub, Nat.reduceLT, Nat.reduceEqDiff, Option.bind_eq_bind, Option.bind_some, Option.map_some, decide_true, decide_false, ↓reduceIte, bne_self_eq_false, Bool.bne_true, Bool.bne_false, Bool.not_true, Bool.not_false, Bool.false_eq_true] at k2
      rw [k2, List.any_cons, h3, Bool.false_or]
    · refine ⟨(((x :: Q).length : Nat) : Int), Int.natCast_nonneg _, Int.le_refl _, ?_⟩
      rw [iterW_succ]
      have h4 : (false != (setTx false).contains [x]) = true := by rw [inV, h3]; rfl
      generalize hL : (((x :: Q).length : Nat) : Int) = L at *
      simp only [exec, evalX, evalXs, evalT, locV, mk, Stem.get, Stem.put, truthV, cmpV, retOf, binV, insetV, inlV, negV, minV, lenV, aatV, flat, setL, List.getElem?_cons_zero, List.getElem?_cons_succ, List.set_cons_zero, List.set_cons_succ, List.length_cons, List.length_nil, List.replicate, List.cons_append, List.nil_append, Nat.reduceAdd, Nat.reduceSub, Nat.reduceLT, Nat.reduceEqDiff, Option.bind_eq_bind, Option.bind_some, Option.map_some, decide_true, decide_false, ↓reduceIte, bne_self_eq_false, Bool.bne_true, Bool.bne_false, Bool.not_true, Bool.not_false, Bool.false_eq_true, h1, hx, h4, List.any_cons, h3, Bool.true_or]
theorem call5 (d : Nat) (a b : V) (σ : Sta) : callN FNS (d+1) 5 [a, b] σ = retOf (exec (callN FNS d) b5 [a, b] σ) := rfl
theorem gogb (d : Nat) (t P R : Tx) (l bra ket p1 p2 : Int) (ht : t = P ++ R) (hn : P.length < 1000) : ∃ c', 0 ≤ c' ∧ c' ≤ (P.length : Int) ∧ callN FNS (d+1) 5 [.slf, .set false] (mk t (P.length : Int) l 0 bra ket p1 p2) = some (.bool (P.any isV), mk t c' l 0 bra ket p1 p2) := by
  obtain ⟨c', k0, k1, k2⟩ := scan_b (callN FNS d) t l bra ket p1 p2 P.reverse R 1000 (by simp [ht]) (by simpa using hn)
  refine ⟨c', k0, by simpa using k1, ?_⟩
  rw [call5]
  unfold b5
  rw [List.length_reverse] at k2
  rw [show P.any isV = P.reverse.any isV from by simp]
  cases h5 : P.reverse.any isV
  · rw [h5] at k2
    rw [seq_next _ ((whl_of ..).trans k2)]
    simp only [exec, evalX, evalXs, evalT, locV, mk, Stem.get, Stem.put, truthV, cmpV, retOf, binV, insetV, inlV, negV, minV, lenV, aatV, flat, setL, List.getElem?_cons_zero, List.getElem?_cons_succ, List.set_cons_zero, List.set_cons_succ, List.length_cons, List.length_nil, List.replicate, List.cons_append, List.nil_append, Nat.reduceAdd, Nat.reduceSub, Nat.reduceLT, Nat.reduceEqDiff, Option.bind_eq_bind, Option.bind_some, Option.map_some, decide_true, decide_false, ↓reduceIte, bne_self_eq_false, Bool.bne_true, Bool.bne_false, Bool.not_true, Bool.not_false, Bool.false_eq_true]
  · rw [h5] at k2
    rw [seq_ret _ ((whl_of ..).trans k2)]
    simp only [exec, evalX, evalXs, evalT, locV, mk, Stem.get, Stem.put, truthV, cmpV, retOf, binV, insetV, inlV, negV, minV, lenV, aatV, flat, setL, List.getElem?_cons_zero, List.getElem?_cons_succ, List.set_cons_zero, List.set_cons_succ, List.length_cons, List.length_nil, List.replicate, List.cons_append, List.nil_append, Nat.reduceAdd, Nat.reduceSub, Nat.reduceLT, Nat.reduceEqDiff, Option.bind_eq_bind, Option.bind_some, Option.map_some, decide_true, decide_false, ↓reduceIte, bne_self_eq_false, Bool.bne_true, Bool.bne_false, Bool.not_true, Bool.not_false, Bool.false_eq_true]
end Mine.C
end

section
set_option Elab.async false
set_option maxRecDepth 100000
set_option linter.unusedVariables false
set_option linter.unusedSimpArgs false
namespace Mine.C
theorem call7 (d : Nat) (a b c e : V) (σ : Sta) : callN FNS (d+1) 7 [a, b, c, e] σ = retOf (exec (callN FNS d) b7 [a, b, c, e, .undef] σ) := rfl
theorem call8 (d : Nat) (a b : V) (σ : Sta) : callN FNS (d+1) 8 [a, b] σ = retOf (exec (callN FNS d) b8 [a, b] σ) := rfl
theorem call9 (d : Nat) (a : V) (σ : Sta) : callN FNS (d+1) 9 [a] σ = retOf (exec (callN FNS d) b9 [a] σ) := rfl
theorem call10 (d : Nat) (a b c e : V) (σ : Sta) : callN FNS (d+1) 10 [a, b, c, e] σ = retOf (exec (callN FNS d) b10 [a, b, c, e, .undef] σ) := rfl
theorem call11 (d : Nat) (a b : V) (σ : Sta) : callN FNS (d+1) 11 [a, b] σ = retOf (exec (callN FNS d) b11 [a, b] σ) := rfl
theorem call12 (d : Nat) (a : V) (σ : Sta) : callN FNS (d+1) 12 [a] σ = retOf (exec (callN FNS d) b12 [a] σ) := rfl
theorem call13 (d : Nat) (a : V) (σ : Sta) : callN FNS (d+1) 13 [a] σ = retOf (exec (callN FNS d) b13 [a] σ) := rfl
theorem call15 (d : Nat) (a : V) (σ : Sta) : callN FNS (d+1) 15 [a] σ = retOf (exec (callN FNS d) b15 [a] σ) := rfl
theorem call16 (d : Nat) (a : V) (σ : Sta) : callN FNS (d+1) 16 [a] σ = retOf (exec (callN FNS d) b16 [a] σ) := rfl
theorem call17 (d : Nat) (a : V) (σ : Sta) : callN FNS (d+1) 17 [a] σ = retOf (exec (callN FNS d) b17 [a] σ) := rfl
theorem r_R1 (d : Nat) (t : Tx) (c l lb bra ket p1 p2 : Int) : callN FNS (d + 1) 16 [.slf] (mk t c l lb bra ket p1 p2) = some (.bool (decide (p1 ≤ c)), mk t c l lb bra ket p1 p2) := by
  simp only [exec, evalX, evalXs, evalT, locV, mk, Stem.get, Stem.put, truthV, cmpV, retOf, binV, insetV, inlV, negV, minV, lenV, aatV, flat, setL, List.getElem?_cons_zero, List.getElem?_cons_succ, List.set_cons_zero, List.set_cons_succ, List.length_cons, List.length_nil, List.replicate, List.cons_append, List.nil_append, Nat.reduceAdd, Nat.reduceSub, Nat.reduceLT, Nat.reduceEqDiff, Option.bind_eq_bind, Option.bind_some, Option.map_some, decide_true, decide_false, ↓reduceIte, bne_self_eq_false, Bool.bne_true, Bool.bne_false, Bool.not_true, Bool.not_false, Bool.false_eq_true, call16, b16]
theorem r_R2 (d : Nat) (t : Tx) (c l lb bra ket p1 p2 : Int) : callN FNS (d + 1) 17 [.slf] (mk t c l lb bra ket p1 p2) = some (.bool (decide (p2 ≤ c)), mk t c l lb bra ket p1 p2) := by
  simp only [exec, evalX, evalXs, evalT, locV, mk, Stem.get, Stem.put, truthV, cmpV, retOf, binV, insetV, inlV, negV, minV, lenV, aatV, flat, setL, List.getElem?_cons_zero, List.getElem?_cons_succ, List.set_cons_zero, List.set_cons_succ, List.length_cons, List.length_nil, List.replicate, List.cons_append, List.nil_append, Nat.reduceAdd, Nat.reduceSub, Nat.reduceLT, Nat.reduceEqDiff, Option.bind_eq_bind, Option.bind_some, Option.map_some, decide_true, decide_false, ↓reduceIte, bne_self_eq_false, Bool.bne_true, Bool.bne_false, Bool.not_true, Bool.not_false, Bool.false_eq_true, call17, b17]
/-- the text with a piece put in place of the signs from a to b -/
def put (t : Tx) (a b : Nat) (s : Tx) : Tx := t.take a ++ s ++ t.drop b
def rc (c a b n : Int) : Int := if b ≤ c then c + (n - (b - a)) else if a < c then a else c
theorem slc_lo (t : Tx) (a : Nat) : slcV (.str t) (.int 0) (.int (a : Int)) = some (.str (t.take a)) := by
  rcases Nat.le_total t.length a with h | h
  · simp [slcV, loOf, hiOf, Nat.min_eq_left h, List.take_of_length_le h]
  · simp [slcV, loOf, hiOf, Nat.min_eq_right h]
theorem slc_hi (t : Tx) (b : Nat) : slcV (.str t) (.int (b : Int)) .none = some (.str (t.drop b)) := by
  simp [slcV, loOf, hiOf]
theorem replace_s (d : Nat) (t s : Tx) (c l lb bra ket p1 p2 : Int) (a b : Nat) (ht : t.length ≤ 500) (hs : s.length ≤ 500) :
    callN FNS (d+1) 7 [.slf, .int (a : Int), .int (b : Int), .str s] (mk t c l lb bra ket p1 p2) = some (.int ((s.length : Int) - (b - a)), mk (put t a b s) (rc c a b s.length) (l + ((s.length : Int) - (b - a))) lb bra ket p1 p2) := by
  have h1 : (t.take a).length + s.length ≤ sizeMax := by
    have : (t.take a).length ≤ t.length := by rw [List.length_take]; omega
    show _ ≤ 2 ^ 20
    omega
  have h2 : (t.take a ++ s).length + (t.drop b).length ≤ sizeMax := by
    have : (t.take a).length ≤ t.length := by rw [List.length_take]; omega
    have : (t.drop b).length ≤ t.length := by rw [List.length_drop]; omega
    rw [List.length_append]
    show _ ≤ 2 ^ 20
    omega
  by_cases h3 : (b : Int) ≤ c
  · simp only [exec, evalX, evalXs, evalT, locV, mk, Stem.get, Stem.put, truthV, cmpV, retOf, binV, insetV, inlV, negV, minV, lenV, aatV, flat, setL, List.getElem?_cons_zero, List.getElem?_cons_succ, List.set_cons_zero, List.set_cons_succ, List.length_cons, List.length_nil, List.replicate, List.cons_append, List.nil_append, Nat.reduceAdd, Nat.reduceSub, Nat.reduceLT, Nat.reduceEqDiff, Option.bind_eq_bind, Option.bind_some, Option.map_some, decide_true, decide_false, ↓reduceIte, bne_self_eq_false, Bool.bne_true, Bool.bne_false, Bool.not_true, Bool.not_false, Bool.false_eq_true, call7, b7, slc_lo, slc_hi, h1, h2, h3, rc, put]
  · by_cases h4 : (a : Int) < c
    · simp only [exec, evalX, evalXs, evalT, locV, mk, Stem.get, Stem.put, truthV, cmpV, retOf, binV, insetV, inlV, negV, minV, lenV, aatV, flat, setL, List.getElem?_cons_zero, List.getElem?_cons_succ, List.set_cons_zero, List.set_cons_succ, List.length_cons, List.length_nil, List.replicate, List.cons_append, List.nil_append, Nat.reduceAdd, Nat.reduceSub, Nat.reduceLT, Nat.reduceEqDiff, Option.bind_eq_bind, Option.bind_some, Option.map_some, decide_true, decide_false, ↓reduceIte, bne_self_eq_false, Bool.bne_true, Bool.bne_false, Bool.not_true, Bool.not_false, Bool.false_eq_true, call7, b7, slc_lo, slc_hi, h1, h2, h3, h4, rc, put]
    · simp only [exec, evalX, evalXs, evalT, locV, mk, Stem.get, Stem.put, truthV, cmpV, retOf, binV, insetV, inlV, negV, minV, lenV, aatV, flat, setL, List.getElem?_cons_zero, List.getElem?_cons_succ, List.set_cons_zero, List.set_cons_succ, List.length_cons, List.length_nil, List.replicate, List.cons_append, List.nil_append, Nat.reduceAdd, Nat.reduceSub, Nat.reduceLT, Nat.reduceEqDiff, Option.bind_eq_bind, Option.bind_some, Option.map_some, decide_true, decide_false, ↓reduceIte, bne_self_eq_false, Bool.bne_true, Bool.bne_false, Bool.not_true, Bool.not_false, Bool.false_eq_true, call7, b7, slc_lo, slc_hi, h1, h2, h3, h4, rc, put]
theorem put_len (t s : Tx) (a b : Nat) (hab : a ≤ b) (hb : b ≤ t.length) : ((put t a b s).length : Int) = (t.length : Int) + ((s.length : Int) - ((b : Int) - (a : Int))) := by
  simp [put]; omega
theorem slice_from (d : Nat) (t s : Tx) (c lb p1 p2 : Int) (a b : Nat) (ht : t.length ≤ 500) (hs : s.length ≤ 500) (hab : a ≤ b) (hb : b ≤ t.length) :
    callN FNS (d+2) 8 [.slf, .str s] (mk t c t.length lb a b p1 p2) = some (.none, mk (put t a b s) (rc c a b s.length) (put t a b s).length lb a ((a : Int) + s.length) p1 p2) := by
  have h1 : (0 : Int) ≤ (a : Int) := by omega
  have h2 : (a : Int) ≤ (b : Int) := by omega
  have h3 : (b : Int) ≤ (t.length : Int) := by omega
  have h4 : (t.length : Int) ≤ (t.length : Int) := by omega
  have hr := replace_s d t s c t.length lb a b p1 p2 a b ht hs
  rw [← put_len t s a b hab hb] at hr
  simp only [exec, evalX, evalXs, evalT, locV, mk, Stem.get, Stem.put, truthV, cmpV, retOf, binV, insetV, inlV, negV, minV, lenV, aatV, flat, setL, List.getElem?_cons_zero, List.getElem?_cons_succ, List.set_cons_zero, List.set_cons_succ, List.length_cons, List.length_nil, List.replicate, List.cons_append, List.nil_append, Nat.reduceAdd, Nat.reduceSub, Nat.reduceLT, Nat.reduceEqDiff, Option.bind_eq_bind, Option.bind_some, Option.map_some, decide_true, decide_false, ↓reduceIte, bne_self_eq_false, Bool.bne_true, Bool.bne_false, Bool.not_true, Bool.not_false, Bool.false_eq_true] at hr
  simp only [exec, evalX, evalXs, evalT, locV, mk, Stem.get, Stem.put, truthV, cmpV, retOf, binV, insetV, inlV, negV, minV, lenV, aatV, flat, setL, List.getElem?_cons_zero, List.getElem?_cons_succ, List.set_cons_zero, List.set_cons_succ, List.length_cons, List.length_nil, List.replicate, List.cons_append, List.nil_append, Nat.reduceAdd, Nat.reduceSub, Nat.reduceLT, Nat.reduceEqDiff, Option.bind_eq_bind, Option.bind_some, Option.map_some, decide_true, decide_false, ↓reduceIte, bne_self_eq_false, Bool.bne_true, Bool.bne_false, Bool.not_true, Bool.not_false, Bool.false_eq_true, call8, b8, h1, h2, h3, h4, hr]
theorem slice_del (d : Nat) (t : Tx) (c lb p1 p2 : Int) (a b : Nat) (ht : t.length ≤ 500) (hab : a ≤ b) (hb : b ≤ t.length) :
    callN FNS (d+3) 9 [.slf] (mk t c t.length lb a b p1 p2) = some (.none, mk (put t a b []) (rc c a b 0) (put t a b []).length lb a a p1 p2) := by
  have hr := slice_from d t [] c lb p1 p2 a b ht (by simp) hab hb
  simp only [List.length_nil, Int.natCast_zero, Int.add_zero] at hr
  simp only [exec, evalX, evalXs, evalT, locV, mk, Stem.get, Stem.put, truthV, cmpV, retOf, binV, insetV, inlV, negV, minV, lenV, aatV, flat, setL, List.getElem?_cons_zero, List.getElem?_cons_succ, List.set_cons_zero, List.set_cons_succ, List.length_cons, List.length_nil, List.replicate, List.cons_append, List.nil_append, Nat.reduceAdd, Nat.reduceSub, Nat.reduceLT, Nat.reduceEqDiff, Option.bind_eq_bind, Option.bind_some, Option.map_some, decide_true, decide_false, ↓reduceIte, bne_self_eq_false, Bool.bne_true, Bool.bne_false, Bool.not_true, Bool.not_false, Bool.false_eq_true, Int.natCast_zero] at hr
  simp only [exec, evalX, evalXs, evalT, locV, mk, Stem.get, Stem.put, truthV, cmpV, retOf, binV, insetV, inlV, negV, minV, lenV, aatV, flat, setL, List.getElem?_cons_zero, List.getElem?_cons_succ, List.set_cons_zero, List.set_cons_succ, List.length_cons, List.length_nil, List.replicate, List.cons_append, List.nil_append, Nat.reduceAdd, Nat.reduceSub, Nat.reduceLT, Nat.reduceEqDiff, Option.bind_eq_bind, Option.bind_some, Option.map_some, decide_true, decide_false, ↓reduceIte, bne_self_eq_false, Bool.bne_true, Bool.bne_false, Bool.not_true, Bool.not_false, Bool.false_eq_true, call9, b9, hr, Int.natCast_zero]
theorem insert (d : Nat) (t s : Tx) (c l lb bra ket p1 p2 : Int) (a b : Nat) (ht : t.length ≤ 500) (hs : s.length ≤ 500) :
    ∃ bra' ket', callN FNS (d+2) 10 [.slf, .int (a : Int), .int (b : Int), .str s] (mk t c l lb bra ket p1 p2) = some (.none, mk (put t a b s) (rc c a b s.length) (l + ((s.length : Int) - (b - a))) lb bra' ket' p1 p2) := by
  have hr := replace_s d t s c l lb bra ket p1 p2 a b ht hs
  simp only [exec, evalX, evalXs, evalT, locV, mk, Stem.get, Stem.put, truthV, cmpV, retOf, binV, insetV, inlV, negV, minV, lenV, aatV, flat, setL, List.getElem?_cons_zero, List.getElem?_cons_succ, List.set_cons_zero, List.set_cons_succ, List.length_cons, List.length_nil, List.replicate, List.cons_append, List.nil_append, Nat.reduceAdd, Nat.reduceSub, Nat.reduceLT, Nat.reduceEqDiff, Option.bind_eq_bind, Option.bind_some, Option.map_some, decide_true, decide_false, ↓reduceIte, bne_self_eq_false, Bool.bne_true, Bool.bne_false, Bool.not_true, Bool.not_false, Bool.false_eq_true] at hr
  by_cases h1 : (a : Int) ≤ bra
  · by_cases h2 : (a : Int) ≤ ket
    · refine ⟨bra + ((s.length : Int) - (b - a)), ket + ((s.length : Int) - (b - a)), ?_⟩
      simp only [exec, evalX, evalXs, evalT, locV, mk, Stem.get, Stem.put, truthV, cmpV, retOf, binV, insetV, inlV, negV, minV, lenV, aatV, flat, setL, List.getElem?_cons_zero, List.getElem?_cons_succ, List.set_cons_zero, List.set_cons_succ, List.length_cons, List.length_nil, List.replicate, List.cons_append, List.nil_append, Nat.reduceAdd, Nat.reduceSub, Nat.reduceLT, Nat.reduceEqDiff, Option.bind_eq_bind, Option.bind_some, Option.map_some, decide_true, decide_false, ↓reduceIte, bne_self_eq_false, Bool.bne_true, Bool.bne_false, Bool.not_true, Bool.not_false, Bool.false_eq_true, call10, b10, hr, h1, h2]
    · refine ⟨bra + ((s.length : Int) - (b - a)), ket, ?_⟩
      simp only [exec, evalX, evalXs, evalT, locV, mk, Stem.get, Stem.put, truthV, cmpV, retOf, binV, insetV, inlV, negV, minV, lenV, aatV, flat, setL, List.getElem?_cons_zero, List.getElem?_cons_succ, List.set_cons_zero, List.set_cons_succ, List.length_cons, List.length_nil, List.replicate, List.cons_append, List.nil_append, Nat.reduceAdd, Nat.reduceSub, Nat.reduceLT, Nat.reduceEqDiff, Option.bind_eq_bind, Option.bind_some, Option.map_some, decide_true, decide_false, ↓reduceIte, bne_self_eq_false, Bool.bne_true, Bool.bne_false, Bool.not_true, Bool.not_false, Bool.false_eq_true, call10, b10, hr, h1, h2]
  · by_cases h2 : (a : Int) ≤ ket
    · refine ⟨bra, ket + ((s.length : Int) - (b - a)), ?_⟩
      simp only [exec, evalX, evalXs, evalT, locV, mk, Stem.get, Stem.put, truthV, cmpV, retOf, binV, insetV, inlV, negV, minV, lenV, aatV, flat, setL, List.getElem?_cons_zero, List.getElem?_cons_succ, List.set_cons_zero, List.set_cons_succ, List.length_cons, List.length_nil, List.replicate, List.cons_append, List.nil_append, Nat.reduceAdd, Nat.reduceSub, Nat.reduceLT, Nat.reduceEqDiff, Option.bind_eq_bind, Option.bind_some, Option.map_some, decide_true, decide_false, ↓reduceIte, bne_self_eq_false, Bool.bne_true, Bool.bne_false, Bool.not_true, Bool.not_false, Bool.false_eq_true, call10, b10, hr, h1, h2]
    · refine ⟨bra, ket, ?_⟩
      simp only [exec, evalX, evalXs, evalT, locV, mk, Stem.get, Stem.put, truthV, cmpV, retOf, binV, insetV, inlV, negV, minV, lenV, aatV, flat, setL, List.getElem?_cons_zero, List.getElem?_cons_succ, List.set_cons_zero, List.set_cons_succ, List.length_cons, List.length_nil, List.replicate, List.cons_append, List.nil_append, Nat.reduceAdd, Nat.reduceSub, Nat.reduceLT, Nat.reduceEqDiff, Option.bind_eq_bind, Option.bind_some, Option.map_some, decide_true, decide_false, ↓reduceIte, bne_self_eq_false, Bool.bne_true, Bool.bne_false, Bool.not_true, Bool.not_false, Bool.false_eq_true, call10, b10, hr, h1, h2]
theorem set_current (d : Nat) (σ : Stem) (t : Tx) : callN FNS (d+1) 11 [.slf, .str t] (some σ) = some (.none, some ⟨some (.str t), some (.int 0), some (.int t.length), some (.int 0), some (.int 0), some (.int t.length), σ.p1, σ.p2⟩) := by
  simp only [exec, evalX, evalXs, evalT, locV, mk, Stem.get, Stem.put, truthV, cmpV, retOf, binV, insetV, inlV, negV, minV, lenV, aatV, flat, setL, List.getElem?_cons_zero, List.getElem?_cons_succ, List.set_cons_zero, List.set_cons_succ, List.length_cons, List.length_nil, List.replicate, List.cons_append, List.nil_append, Nat.reduceAdd, Nat.reduceSub, Nat.reduceLT, Nat.reduceEqDiff, Option.bind_eq_bind, Option.bind_some, Option.map_some, decide_true, decide_false, ↓reduceIte, bne_self_eq_false, Bool.bne_true, Bool.bne_false, Bool.not_true, Bool.not_false, Bool.false_eq_true, call11, b11]
theorem get_current (d : Nat) (t : Tx) (c l lb bra ket p1 p2 : Int) : callN FNS (d+1) 12 [.slf] (mk t c l lb bra ket p1 p2) = some (.str t, mk t c l lb bra ket p1 p2) := by
  simp only [exec, evalX, evalXs, evalT, locV, mk, Stem.get, Stem.put, truthV, cmpV, retOf, binV, insetV, inlV, negV, minV, lenV, aatV, flat, setL, List.getElem?_cons_zero, List.getElem?_cons_succ, List.set_cons_zero, List.set_cons_succ, List.length_cons, List.length_nil, List.replicate, List.cons_append, List.nil_append, Nat.reduceAdd, Nat.reduceSub, Nat.reduceLT, Nat.reduceEqDiff, Option.bind_eq_bind, Option.bind_some, Option.map_some, decide_true, decide_false, ↓reduceIte, bne_self_eq_false, Bool.bne_true, Bool.bne_false, Bool.not_true, Bool.not_false, Bool.false_eq_true, call12, b12]
theorem init (d : Nat) (σ : Stem) : callN FNS (d+2) 13 [.slf] (some σ) = some (.none, some ⟨some (.str []), some (.int 0), some (.int 0), some (.int 0), some (.int 0), some (.int 0), σ.p1, σ.p2⟩) := by
  simp only [exec, evalX, evalXs, evalT, locV, mk, Stem.get, Stem.put, truthV, cmpV, retOf, binV, insetV, inlV, negV, minV, lenV, aatV, flat, setL, List.getElem?_cons_zero, List.getElem?_cons_succ, List.set_cons_zero, List.set_cons_succ, List.length_cons, List.length_nil, List.replicate, List.cons_append, List.nil_append, Nat.reduceAdd, Nat.reduceSub, Nat.reduceLT, Nat.reduceEqDiff, Option.bind_eq_bind, Option.bind_some, Option.map_some, decide_true, decide_false, ↓reduceIte, bne_self_eq_false, Bool.bne_true, Bool.bne_false, Bool.not_true, Bool.not_false, Bool.false_eq_true, call13, b13, set_current]
  rfl
/-- the short end: a non-vowel that is no w, x, Y behind a vowel behind a non-vowel (signs from behind) -/
def shR : Tx → Bool
  | c :: b :: a :: _ => !isW c && isV b && !isV a
  | _ => false
theorem r_shortv (d : Nat) (t Q R : Tx) (l bra ket p1 p2 : Int) (ht : t = Q.reverse ++ R) : ∃ c', callN FNS (d+2) 15 [.slf] (mk t (Q.length : Int) l 0 bra ket p1 p2) = some (.bool (shR Q), mk t c' l 0 bra ket p1 p2) := by
  have g1 : glbs[1]? = some (.set true) := rfl
  have g0 : glbs[0]? = some (.set false) := rfl
  cases Q with
  | nil =>
    have := ogb_0 d t 0 l 0 bra ket p1 p2 true (by omega)
    simp only [exec, evalX, evalXs, evalT, locV, mk, Stem.get, Stem.put, truthV, cmpV, retOf, binV, insetV, inlV, negV, minV, lenV, aatV, flat, setL, List.getElem?_cons_zero, List.getElem?_cons_succ, List.set_cons_zero, List.set_cons_succ, List.length_cons, List.length_nil, List.replicate, List.cons_append, List.nil_append, Nat.reduceAdd, Nat.reduceSub, Nat.reduceLT, Nat.reduceEqDiff, Option.bind_eq_bind, Option.bind_some, Option.map_some, decide_true, decide_false, ↓reduceIte, bne_self_eq_false, Bool.bne_true, Bool.bne_false, Bool.not_true, Bool.not_false, Bool.false_eq_true] at this
    refine ⟨0, ?_⟩
    simp only [exec, evalX, evalXs, evalT, locV, mk, Stem.get, Stem.put, truthV, cmpV, retOf, binV, insetV, inlV, negV, minV, lenV, aatV, flat, setL, List.getElem?_cons_zero, List.getElem?_cons_succ, List.set_cons_zero, List.set_cons_succ, List.length_cons, List.length_nil, List.replicate, List.cons_append, List.nil_append, Nat.reduceAdd, Nat.reduceSub, Nat.reduceLT, Nat.reduceEqDiff, Option.bind_eq_bind, Option.bind_some, Option.map_some, decide_true, decide_false, ↓reduceIte, bne_self_eq_false, Bool.bne_true, Bool.bne_false, Bool.not_true, Bool.not_false, Bool.false_eq_true, call15, b15, g1, g0, this, shR, Int.natCast_zero]
    try rfl
  | cons x Q =>
    have e1 : ¬ (((x :: Q).length : Nat) : Int) ≤ 0 := by rw [List.length_cons]; omega
    have hx : idxV (.str t) (.int ((((x :: Q).length : Nat) : Int) - 1)) = some (.str [x]) := by rw [ht]; exact idx_sub _ _ _
    have k1 := ogb_1 d t (((x :: Q).length : Nat) : Int) l 0 bra ket p1 p2 true x e1 hx
    have hc : ((((x :: Q).length : Nat) : Int) - 1) = (Q.length : Int) := by simp
    rw [hc] at k1
    generalize hL : (((x :: Q).length : Nat) : Int) = L at *
    rw [inW] at k1
    cases h3 : isW x
    · rw [h3, if_neg (by simp)] at k1
      cases Q with
      | nil =>
        have k2 := igb_0 d t 0 l 0 bra ket p1 p2 false (by omega)
        simp only [exec, evalX, evalXs, evalT, locV, mk, Stem.get, Stem.put, truthV, cmpV, retOf, binV, insetV, inlV, negV, minV, lenV, aatV, flat, setL, List.getElem?_cons_zero, List.getElem?_cons_succ, List.set_cons_zero, List.set_cons_succ, List.length_cons, List.length_nil, List.replicate, List.cons_append, List.nil_append, Nat.reduceAdd, Nat.reduceSub, Nat.reduceLT, Nat.reduceEqDiff, Option.bind_eq_bind, Option.bind_some, Option.map_some, decide_true, decide_false, ↓reduceIte, bne_self_eq_false, Bool.bne_true, Bool.bne_false, Bool.not_true, Bool.not_false, Bool.false_eq_true, Int.natCast_zero] at k1 k2
        refine ⟨0, ?_⟩
        simp only [exec, evalX, evalXs, evalT, locV, mk, Stem.get, Stem.put, truthV, cmpV, retOf, binV, insetV, inlV, negV, minV, lenV, aatV, flat, setL, List.getElem?_cons_zero, List.getElem?_cons_succ, List.set_cons_zero, List.set_cons_succ, List.length_cons, List.length_nil, List.replicate, List.cons_append, List.nil_append, Nat.reduceAdd, Nat.reduceSub, Nat.reduceLT, Nat.reduceEqDiff, Option.bind_eq_bind, Option.bind_some, Option.map_some, decide_true, decide_false, ↓reduceIte, bne_self_eq_false, Bool.bne_true, Bool.bne_false, Bool.not_true, Bool.not_false, Bool.false_eq_true, call15, b15, g1, g0, k1, k2, shR, Int.natCast_zero]
        try rfl
      | cons y Q =>
        have e2 : ¬ (((y :: Q).length : Nat) : Int) ≤ 0 := by rw [List.length_cons]; omega
        have hy : idxV (.str t) (.int ((((y :: Q).length : Nat) : Int) - 1)) = some (.str [y]) := by rw [ht, List.reverse_cons, List.append_assoc]; exact idx_sub _ _ _
        have k2 := igb_1 d t (((y :: Q).length : Nat) : Int) l 0 bra ket p1 p2 false y e2 hy
        have hc : ((((y :: Q).length : Nat) : Int) - 1) = (Q.length : Int) := by simp
        rw [hc, inV] at k2
        generalize hL2 : (((y :: Q).length : Nat) : Int) = L2 at *
        cases h4 : isV y
        · rw [h4, if_neg (by simp)] at k2
          simp only [exec, evalX, evalXs, evalT, locV, mk, Stem.get, Stem.put, truthV, cmpV, retOf, binV, insetV, inlV, negV, minV, lenV, aatV, flat, setL, List.getElem?_cons_zero, List.getElem?_cons_succ, List.set_cons_zero, List.set_cons_succ, List.length_cons, List.length_nil, List.replicate, List.cons_append, List.nil_append, Nat.reduceAdd, Nat.reduceSub, Nat.reduceLT, Nat.reduceEqDiff, Option.bind_eq_bind, Option.bind_some, Option.map_some, decide_true, decide_false, ↓reduceIte, bne_self_eq_false, Bool.bne_true, Bool.bne_false, Bool.not_true, Bool.not_false, Bool.false_eq_true] at k1 k2
          refine ⟨L2, ?_⟩
          simp only [exec, evalX, evalXs, evalT, locV, mk, Stem.get, Stem.put, truthV, cmpV, retOf, binV, insetV, inlV, negV, minV, lenV, aatV, flat, setL, List.getElem?_cons_zero, List.getElem?_cons_succ, List.set_cons_zero, List.set_cons_succ, List.length_cons, List.length_nil, List.replicate, List.cons_append, List.nil_append, Nat.reduceAdd, Nat.reduceSub, Nat.reduceLT, Nat.reduceEqDiff, Option.bind_eq_bind, Option.bind_some, Option.map_some, decide_true, decide_false, ↓reduceIte, bne_self_eq_false, Bool.bne_true, Bool.bne_false, Bool.not_true, Bool.not_false, Bool.false_eq_true, call15, b15, g1, g0, k1, k2]
          cases Q <;> simp [shR, h4] <;> rfl
        · rw [h4, if_pos rfl] at k2
          cases Q with
          | nil =>
            have k3 := ogb_0 d t 0 l 0 bra ket p1 p2 false (by omega)
            simp only [exec, evalX, evalXs, evalT, locV, mk, Stem.get, Stem.put, truthV, cmpV, retOf, binV, insetV, inlV, negV, minV, lenV, aatV, flat, setL, List.getElem?_cons_zero, List.getElem?_cons_succ, List.set_cons_zero, List.set_cons_succ, List.length_cons, List.length_nil, List.replicate, List.cons_append, List.nil_append, Nat.reduceAdd, Nat.reduceSub, Nat.reduceLT, Nat.reduceEqDiff, Option.bind_eq_bind, Option.bind_some, Option.map_some, decide_true, decide_false, ↓reduceIte, bne_self_eq_false, Bool.bne_true, Bool.bne_false, Bool.not_true, Bool.not_false, Bool.false_eq_true, Int.natCast_zero] at k1 k2 k3
            refine ⟨0, ?_⟩
            simp only [exec, evalX, evalXs, evalT, locV, mk, Stem.get, Stem.put, truthV, cmpV, retOf, binV, insetV, inlV, negV, minV, lenV, aatV, flat, setL, List.getElem?_cons_zero, List.getElem?_cons_succ, List.set_cons_zero, List.set_cons_succ, List.length_cons, List.length_nil, List.replicate, List.cons_append, List.nil_append, Nat.reduceAdd, Nat.reduceSub, Nat.reduceLT, Nat.reduceEqDiff, Option.bind_eq_bind, Option.bind_some, Option.map_some, decide_true, decide_false, ↓reduceIte, bne_self_eq_false, Bool.bne_true, Bool.bne_false, Bool.not_true, Bool.not_false, Bool.false_eq_true, call15, b15, g1, g0, k1, k2, k3, shR, Int.natCast_zero]
            try rfl
          | cons z Q =>
            have e3 : ¬ (((z :: Q).length : Nat) : Int) ≤ 0 := by rw [List.length_cons]; omega
            have hz : idxV (.str t) (.int ((((z :: Q).length : Nat) : Int) - 1)) = some (.str [z]) := by rw [ht, List.reverse_cons, List.reverse_cons, List.append_assoc, List.append_assoc]; exact idx_sub _ _ _
            have k3 := ogb_1 d t (((z :: Q).length : Nat) : Int) l 0 bra ket p1 p2 false z e3 hz
            rw [inV] at k3
            generalize hL3 : (((z :: Q).length : Nat) : Int) = L3 at *
            cases h5 : isV z
            · rw [h5, if_neg (by simp)] at k3
              simp only [exec, evalX, evalXs, evalT, locV, mk, Stem.get, Stem.put, truthV, cmpV, retOf, binV, insetV, inlV, negV, minV, lenV, aatV, flat, setL, List.getElem?_cons_zero, List.getElem?_cons_succ, List.set_cons_zero, List.set_cons_succ, List.length_cons, List.length_nil, List.replicate, List.cons_append, List.nil_append, Nat.reduceAdd, Nat.reduceSub, Nat.reduceLT, Nat.reduceEqDiff, Option.bind_eq_bind, Option.bind_some, Option.map_some, decide_true, decide_false, ↓reduceIte, bne_self_eq_false, Bool.bne_true, Bool.bne_false, Bool.not_true, Bool.not_false, Bool.false_eq_true] at k1 k2 k3
              refine ⟨L3 - 1, ?_⟩
              simp only [exec, evalX, evalXs, evalT, locV, mk, Stem.get, Stem.put, truthV, cmpV, retOf, binV, insetV, inlV, negV, minV, lenV, aatV, flat, setL, List.getElem?_cons_zero, List.getElem?_cons_succ, List.set_cons_zero, List.set_cons_succ, List.length_cons, List.length_nil, List.replicate, List.cons_append, List.nil_append, Nat.reduceAdd, Nat.reduceSub, Nat.reduceLT, Nat.reduceEqDiff, Option.bind_eq_bind, Option.bind_some, Option.map_some, decide_true, decide_false, ↓reduceIte, bne_self_eq_false, Bool.bne_true, Bool.bne_false, Bool.not_true, Bool.not_false, Bool.false_eq_true, call15, b15, g1, g0, k1, k2, k3, shR, h3, h4, h5, Bool.and_self, Bool.and_true]
              try rfl
            · rw [h5, if_pos rfl] at k3
              simp only [exec, evalX, evalXs, evalT, locV, mk, Stem.get, Stem.put, truthV, cmpV, retOf, binV, insetV, inlV, negV, minV, lenV, aatV, flat, setL, List.getElem?_cons_zero, List.getElem?_cons_succ, List.set_cons_zero, List.set_cons_succ, List.length_cons, List.length_nil, List.replicate, List.cons_append, List.nil_append, Nat.reduceAdd, Nat.reduceSub, Nat.reduceLT, Nat.reduceEqDiff, Option.bind_eq_bind, Option.bind_some, Option.map_some, decide_true, decide_false, ↓reduceIte, bne_self_eq_false, Bool.bne_true, Bool.bne_false, Bool.not_true, Bool.not_false, Bool.false_eq_true] at k1 k2 k3
              refine ⟨L3, ?_⟩
              simp only [exec, evalX, evalXs, evalT, locV, mk, Stem.get, Stem.put, truthV, cmpV, retOf, binV, insetV, inlV, negV, minV, lenV, aatV, flat, setL, List.getElem?_cons_zero, List.getElem?_cons_succ, List.set_cons_zero, List.set_cons_succ, List.length_cons, List.length_nil, List.replicate, List.cons_append, List.nil_append, Nat.reduceAdd, Nat.reduceSub, Nat.reduceLT, Nat.reduceEqDiff, Option.bind_eq_bind, Option.bind_some, Option.map_some, decide_true, decide_false, ↓reduceIte, bne_self_eq_false, Bool.bne_true, Bool.bne_false, Bool.not_true, Bool.not_false, Bool.false_eq_true, call15, b15, g1, g0, k1, k2, k3, shR, h3, h4, h5, Bool.and_false]
              try rfl
    · rw [h3, if_pos rfl] at k1
      simp only [exec, evalX, evalXs, evalT, locV, mk, Stem.get, Stem.put, truthV, cmpV, retOf, binV, insetV, inlV, negV, minV, lenV, aatV, flat, setL, List.getElem?_cons_zero, List.getElem?_cons_succ, List.set_cons_zero, List.set_cons_succ, List.length_cons, List.length_nil, List.replicate, List.cons_append, List.nil_append, Nat.reduceAdd, Nat.reduceSub, Nat.reduceLT, Nat.reduceEqDiff, Option.bind_eq_bind, Option.bind_some, Option.map_some, decide_true, decide_false, ↓reduceIte, bne_self_eq_false, Bool.bne_true, Bool.bne_false, Bool.not_true, Bool.not_false, Bool.false_eq_true] at k1
      refine ⟨L, ?_⟩
      simp only [exec, evalX, evalXs, evalT, locV, mk, Stem.get, Stem.put, truthV, cmpV, retOf, binV, insetV, inlV, negV, minV, lenV, aatV, flat, setL, List.getElem?_cons_zero, List.getElem?_cons_succ, List.set_cons_zero, List.set_cons_succ, List.length_cons, List.length_nil, List.replicate, List.cons_append, List.nil_append, Nat.reduceAdd, Nat.reduceSub, Nat.reduceLT, Nat.reduceEqDiff, Option.bind_eq_bind, Option.bind_some, Option.map_some, decide_true, decide_false, ↓reduceIte, bne_self_eq_false, Bool.bne_true, Bool.bne_false, Bool.not_true, Bool.not_false, Bool.false_eq_true, call15, b15, g1, g0, k1]
      have : shR (x :: Q) = false := by
        cases Q with
        | nil => rfl
        | cons y Q => cases Q <;> simp [shR, h3]
      rw [this]
      try rfl
end Mine.C
end

section
set_option Elab.async false
set_option maxRecDepth 100000
set_option linter.unusedVariables false
set_option linter.unusedSimpArgs false
namespace Mine.C
def IB : S := (.seq (.ife (.x (.cmp .eq (.bin .sub (.loc 4) (.loc 11)) (.loc 5))) (.seq (.asg 10 (.neg (.cst (.int 1)))) (.seq .brk .skip)) .skip) (.seq (.asg 10 (.bin .sub (.ord (.idx (.fld 0 .cur) (.bin .sub (.bin .sub (.loc 4) (.cst (.int 1))) (.loc 11)))) (.ord (.idx (.aat 12 0) (.loc 13))))) (.seq (.ife (.x (.cmp .ne (.loc 10) (.cst (.int 0)))) (.seq .brk .skip) .skip) (.seq (.aug 11 .add (.cst (.int 1))) .skip))))
def FB : S := .forr 13 (.bin .sub (.bin .sub (.len (.aat 12 0)) (.cst (.int 1))) (.loc 11)) (.neg (.cst (.int 1))) true IB
def OB : S := (.seq (.asg 9 (.bin .add (.loc 2) (.bin .shr (.bin .sub (.loc 3) (.loc 2)) (.cst (.int 1))))) (.seq (.asg 10 (.cst (.int 0))) (.seq (.asg 11 (.min (.loc 6) (.loc 7))) (.seq (.asg 12 (.idx (.loc 1) (.loc 9))) (.seq FB (.seq (.ife (.x (.cmp .lt (.loc 10) (.cst (.int 0)))) (.seq (.asg 3 (.loc 9)) (.seq (.asg 7 (.loc 11)) .skip)) (.seq (.asg 2 (.loc 9)) (.seq (.asg 6 (.loc 11)) .skip))) (.seq (.ife (.x (.cmp .le (.bin .sub (.loc 3) (.loc 2)) (.cst (.int 1)))) (.seq (.ife (.x (.cmp .gt (.loc 2) (.cst (.int 0)))) (.seq .brk .skip) .skip) (.seq (.ife (.x (.cmp .eq (.loc 3) (.loc 2))) (.seq .brk .skip) .skip) (.seq (.ife (.x (.loc 8)) (.seq .brk .skip) .skip) (.seq (.asg 8 (.cst (.bool true))) .skip)))) .skip) .skip)))))))
def CB : S := (.seq (.asg 12 (.idx (.loc 1) (.loc 2))) (.seq (.ife (.x (.cmp .ge (.loc 6) (.len (.aat 12 0)))) (.seq (.setf 0 .c (.bin .sub (.loc 4) (.len (.aat 12 0)))) (.seq (.ret (.aat 12 2)) .skip)) .skip) (.seq (.asg 2 (.aat 12 1)) (.seq (.ife (.x (.cmp .lt (.loc 2) (.cst (.int 0)))) (.seq (.ret (.cst (.int 0))) .skip) .skip) .skip))))
theorem b6_eq : b6 = (.seq (.asg 2 (.cst (.int 0))) (.seq (.asg 3 (.len (.loc 1))) (.seq (.asg 4 (.fld 0 .c)) (.seq (.asg 5 (.fld 0 .lb)) (.seq (.asg 6 (.cst (.int 0))) (.seq (.asg 7 (.cst (.int 0))) (.seq (.asg 8 (.cst (.bool false))) (.seq (.whl (.x (.cst (.bool true))) OB) (.seq (.whl (.x (.cst (.bool true))) CB) (.seq (.ret (.neg (.cst (.int 1)))) .skip)))))))))) := rfl
theorem rangeDown_succ (a : Int) (n : Nat) : rangeDown a (n + 1) = .int a :: rangeDown (a - 1) n := by
  simp only [rangeDown, List.range_succ_eq_map, List.map_cons, List.map_map, Int.natCast_zero, Int.sub_zero]
  congr 1
  apply List.map_congr_left
  intro k _
  simp only [Function.comp]
  congr 1
  omega
theorem iterF_cons (i : Nat) (b : List V → Sta → Out) (v : V) (r : List V) (ρ : List V) (σ : Sta) : iterF i b (v :: r) ρ σ = (setL ρ i v >>= fun ρ => b ρ σ >>= fun y => match y.1 with | .next | .cont => iterF i b r y.2.1 y.2.2 | .brk => some (.next, y.2.1, y.2.2) | f => some (f, y.2.1, y.2.2)) := rfl
theorem inner (Φ : Phi) (t : Tx) (l bra ket p1 p2 : Int) (v i j ci cj fk k : V) (sg : Tx) (sa sb : Int) : ∀ (r w A B : Tx) (x13 : V), sg.reverse = A ++ r → t.reverse = B ++ w → A.length = B.length →
    ∃ x, iterF 13 (fun ρ σ => exec Φ IB ρ σ) (rangeDown ((r.length : Int) - 1) r.length) [.slf, v, i, j, .int (t.length : Int), .int 0, ci, cj, fk, k, .int 0, .int (A.length : Int), .among sg sa sb, x13] (mk t (t.length : Int) l 0 bra ket p1 p2)
      = some (.next, [.slf, v, i, j, .int (t.length : Int), .int 0, ci, cj, fk, k, .int (cf w r A.length).1, .int ((cf w r A.length).2 : Nat), .among sg sa sb, x], (mk t (t.length : Int) l 0 bra ket p1 p2)) := by
  intro r
  induction r with
  | nil =>
    intro w A B x13 hA hB hAB
    refine ⟨x13, ?_⟩
    cases w <;> simp [rangeDown, iterF, cf]
  | cons b r ih =>
    intro w A B x13 hA hB hAB
    have hlen : t.length = B.length + w.length := by rw [← List.length_reverse, hB, List.length_append]
    rw [List.length_cons, rangeDown_succ, iterF_cons]
    rw [show (((r.length + 1 : Nat) : Int) - 1) = (r.length : Int) by omega]
    cases w with
    | nil =>
      have h1 : (t.length : Int) - (A.length : Int) = 0 := by simp at hlen; omega
      refine ⟨.int (r.length : Int), ?_⟩
      unfold IB
      simp only [exec, evalX, evalXs, evalT, locV, mk, Stem.get, Stem.put, truthV, cmpV, retOf, binV, insetV, inlV, negV, minV, lenV, aatV, flat, setL, List.getElem?_cons_zero, List.getElem?_cons_succ, List.set_cons_zero, List.set_cons_succ, List.length_cons, List.length_nil, List.replicate, List.cons_append, List.nil_append, Nat.reduceAdd, Nat.reduceSub, Nat.reduceLT, Nat.reduceEqDiff, Option.bind_eq_bind, Option.bind_some, Option.map_some, decide_true, decide_false, ↓reduceIte, bne_self_eq_false, Bool.bne_true, Bool.bne_false, Bool.not_true, Bool.not_false, Bool.false_eq_true, h1, cf]
    | cons a w =>
      have h1 : ¬ ((t.length : Int) - (A.length : Int) = 0) := by simp at hlen; omega
      have hsg : sg = r.reverse ++ b :: A.reverse := by
        rw [← List.reverse_reverse sg, hA]; simp
      have ht : t = w.reverse ++ a :: B.reverse := by
        rw [← List.reverse_reverse t, hB]; simp
      have hx : idxV (.str t) (.int ((t.length : Int) - 1 - (A.length : Int))) = some (.str [a]) := by
        rw [show (t.length : Int) - 1 - (A.length : Int) = (w.reverse.length : Int) by simp at hlen ⊢; omega]
        have := idx_app w.reverse B.reverse a
        rw [← ht] at this; exact this
      have hy : idxV (.str sg) (.int (r.length : Int)) = some (.str [b]) := by
        have := idx_app r.reverse A.reverse b
        rw [← hsg, List.length_reverse] at this; exact this
      by_cases h2 : a = b
      · subst h2
        have h3 : ((a : Int) - (a : Int)) = 0 := by omega
        obtain ⟨x, hx2⟩ := ih w (A ++ [a]) (B ++ [a]) (.int (r.length : Int)) (by rw [hA]; simp) (by rw [hB]; simp) (by simp [hAB])
        refine ⟨x, ?_⟩
        have hc : (A.length : Int) + 1 = (((A ++ [a]).length : Nat) : Int) := by simp
        have hc2 : (A ++ [a]).length = A.length + 1 := by simp
        have hcf : cf (a :: w) (a :: r) A.length = cf w r ((A ++ [a]).length) := by simp [cf]
        rw [hcf]
        generalize hQ : cf w r ((A ++ [a]).length) = Q at *
        unfold IB at hx2 ⊢
        simp only [exec, evalX, evalXs, evalT, locV, mk, Stem.get, Stem.put, truthV, cmpV, retOf, binV, insetV, inlV, negV, minV, lenV, aatV, flat, setL, List.getElem?_cons_zero, List.getElem?_cons_succ, List.set_cons_zero, List.set_cons_succ, List.length_cons, List.length_nil, List.replicate, List.cons_append, List.nil_append, Nat.reduceAdd, Nat.reduceSub, Nat.reduceLT, Nat.reduceEqDiff, Option.bind_eq_bind, Option.bind_some, Option.map_some, decide_true, decide_false, ↓reduceIte, bne_self_eq_false, Bool.bne_true, Bool.bne_false, Bool.not_true, Bool.not_false, Bool.false_eq_true, h1, hx, hy, ordV, h3, hc]
        simp only [exec, evalX, evalXs, evalT, locV, mk, Stem.get, Stem.put, truthV, cmpV, retOf, binV, insetV, inlV, negV, minV, lenV, aatV, flat, setL, List.getElem?_cons_zero, List.getElem?_cons_succ, List.set_cons_zero, List.set_cons_succ, List.length_cons, List.length_nil, List.replicate, List.cons_append, List.nil_append, Nat.reduceAdd, Nat.reduceSub, Nat.reduceLT, Nat.reduceEqDiff, Option.bind_eq_bind, Option.bind_some, Option.map_some, decide_true, decide_false, ↓reduceIte, bne_self_eq_false, Bool.bne_true, Bool.bne_false, Bool.not_true, Bool.not_false, Bool.false_eq_true] at hx2
        exact hx2
      · have h3 : ¬ ((a : Int) - (b : Int) = 0) := by omega
        have hcf : cf (a :: w) (b :: r) A.length = ((a : Int) - (b : Int), A.length) := by simp [cf, h2]
        refine ⟨.int (r.length : Int), ?_⟩
        rw [hcf]
        unfold IB
        simp only [exec, evalX, evalXs, evalT, locV, mk, Stem.get, Stem.put, truthV, cmpV, retOf, binV, insetV, inlV, negV, minV, lenV, aatV, flat, setL, List.getElem?_cons_zero, List.getElem?_cons_succ, List.set_cons_zero, List.set_cons_succ, List.length_cons, List.length_nil, List.replicate, List.cons_append, List.nil_append, Nat.reduceAdd, Nat.reduceSub, Nat.reduceLT, Nat.reduceEqDiff, Option.bind_eq_bind, Option.bind_some, Option.map_some, decide_true, decide_false, ↓reduceIte, bne_self_eq_false, Bool.bne_true, Bool.bne_false, Bool.not_true, Bool.not_false, Bool.false_eq_true, h1, hx, hy, ordV, h3]
end Mine.C
end

section
set_option Elab.async false
set_option maxRecDepth 100000
set_option linter.unusedVariables false
set_option linter.unusedSimpArgs false
namespace Mine.C
def tabV (rows : List Row) : V := .list (rows.map fun r => .among r.1 r.2.1 r.2.2)
theorem tab_idx {rows : List Row} {k : Nat} (hk : k < rows.length) : idxV (tabV rows) (.int (k : Int)) = some (.among (rs rows k).reverse (sub rows k) (res rows k)) := by
  simp [idxV, tabV, rs, sub, res, List.getElem?_eq_getElem hk]
theorem rs_len {rows : List Row} (h : smallB rows = true) (k : Nat) : (rs rows k).length ≤ 20 := by
  simp only [smallB, List.all_eq_true, decide_eq_true_eq] at h
  unfold rs
  by_cases hk : k < rows.length
  · rw [List.getElem?_eq_getElem hk, Option.getD_some, List.length_reverse]
    exact h _ (List.getElem_mem hk)
  · rw [List.getElem?_eq_none (by omega)]
    simp
theorem small_of {i : Int} (h1 : -1000 ≤ i) (h2 : i ≤ 1000) : small i = true := by
  unfold small
  rw [decide_eq_true, decide_eq_true]
  · rfl
  · have : (1000 : Int) < 2 ^ 62 := by decide
    omega
  · have : (1000 : Int) < 2 ^ 62 := by decide
    omega
/-- the inner loop as a statement -/
theorem inner_s (Φ : Phi) (t : Tx) (l bra ket p1 p2 : Int) (v i j ci cj fk k : V) (sg : Tx) (sa sb : Int) (m : Nat) (x13 : V) (hm : m ≤ lcp t.reverse sg.reverse) (hs : sg.length ≤ 20) :
    ∃ x, exec Φ FB [.slf, v, i, j, .int (t.length : Int), .int 0, ci, cj, fk, k, .int 0, .int (m : Int), .among sg sa sb, x13] (mk t (t.length : Int) l 0 bra ket p1 p2)
      = some (.next, [.slf, v, i, j, .int (t.length : Int), .int 0, ci, cj, fk, k, .int (cf (t.reverse.drop m) (sg.reverse.drop m) m).1, .int ((cf (t.reverse.drop m) (sg.reverse.drop m) m).2 : Nat), .among sg sa sb, x], (mk t (t.length : Int) l 0 bra ket p1 p2)) := by
  have hle : ∀ A B : Tx, lcp A B ≤ A.length ∧ lcp A B ≤ B.length := by
    intro A
    induction A with
    | nil => intro B; cases B <;> simp [lcp]
    | cons a A ih => intro B; cases B with
      | nil => simp [lcp]
      | cons b B => have := ih B; simp only [lcp]; split <;> simp <;> omega
  have hl := hle t.reverse sg.reverse
  simp only [List.length_reverse] at hl
  obtain ⟨x, hx⟩ := inner Φ t l bra ket p1 p2 v i j ci cj fk k sg sa sb (sg.reverse.drop m) (t.reverse.drop m) (sg.reverse.take m) (t.reverse.take m) x13 (by simp) (by simp) (by simp; omega)
  refine ⟨x, ?_⟩
  have e1 : (sg.reverse.take m).length = m := by simp; omega
  have e2 : (((sg.reverse.drop m).length : Nat) : Int) - 1 = (sg.length : Int) - 1 - (m : Int) := by simp; omega
  have e3 : ((sg.length : Int) - 1 - (m : Int) - -1).toNat = (sg.reverse.drop m).length := by simp; omega
  rw [e1, e2] at hx
  have s1 : small ((sg.length : Int) - 1 - (m : Int)) = true := small_of (by omega) (by omega)
  have s2 : small (-1) = true := by decide
  unfold FB
  simp only [exec, evalX, evalXs, evalT, locV, mk, Stem.get, Stem.put, truthV, cmpV, retOf, binV, insetV, inlV, negV, minV, lenV, aatV, flat, setL, List.getElem?_cons_zero, List.getElem?_cons_succ, List.set_cons_zero, List.set_cons_succ, List.length_cons, List.length_nil, List.replicate, List.cons_append, List.nil_append, Nat.reduceAdd, Nat.reduceSub, Nat.reduceLT, Nat.reduceEqDiff, Option.bind_eq_bind, Option.bind_some, Option.map_some, decide_true, decide_false, ↓reduceIte, bne_self_eq_false, Bool.bne_true, Bool.bne_false, Bool.not_true, Bool.not_false, Bool.false_eq_true, rangeV, s1, s2, e3, Bool.and_self]
  exact hx
def AfterB (rows : List Row) (W : Tx) (i ci : Nat) : Prop := (i < rows.length ∧ leT (rs rows i) W = true ∧ ci = lcp W (rs rows i) ∧ ∀ m, m < rows.length → leT (rs rows m) W = true → m ≤ i) ∨ (i = 0 ∧ ci = 0 ∧ ∀ m, m < rows.length → leT (rs rows m) W = false)
def InvB (rows : List Row) (W : Tx) (i j ci cj : Nat) (fk : Bool) : Prop :=
  i < j ∧ j ≤ rows.length ∧ ((i = 0 ∧ ci = 0) ∨ (leT (rs rows i) W = true ∧ ci = lcp W (rs rows i))) ∧ ((j = rows.length ∧ cj = 0) ∨ (j < rows.length ∧ leT (rs rows j) W = false ∧ cj = lcp W (rs rows j))) ∧ (fk = true → i = 0 ∧ j = 1)
theorem above {rows : List Row} (hs : sortedB rows = true) {W : Tx} {j m : Nat} (hm : m < rows.length) (hj : leT (rs rows j) W = false) (h : leT (rs rows m) W = true) : m < j := by
  apply Classical.byContradiction
  intro hn
  have := le_trans _ _ _ (sorted_of hs hm (Nat.le_of_not_lt hn)) h
  rw [hj] at this; cases this
theorem lcp_all (W A : Tx) (m : Nat) (h : m = 0) : m ≤ lcp W A := by omega
theorem outer (Φ : Phi) (rows : List Row) (hok : rowsOk rows = true) (t : Tx) (l bra ket p1 p2 : Int) : ∀ (n i j ci cj : Nat) (fk : Bool) (x9 x10 x11 x12 x13 : V), InvB rows t.reverse i j ci cj fk → j - i + (if fk then 0 else 1) ≤ n →
    ∃ i' ci' x3 x7 x8 x9' x10' x11' x12' x13', AfterB rows t.reverse i' ci' ∧
      iterW (fun ρ σ => evalT Φ ρ (.x (.cst (.bool true))) σ) (fun ρ σ => exec Φ OB ρ σ) n [.slf, tabV rows, .int (i : Int), .int (j : Int), .int (t.length : Int), .int 0, .int (ci : Int), .int (cj : Int), .bool fk, x9, x10, x11, x12, x13] (mk t (t.length : Int) l 0 bra ket p1 p2)
      = some (.next, [.slf, tabV rows, .int ((i' : Nat) : Int), x3, .int (t.length : Int), .int 0, .int ((ci' : Nat) : Int), x7, x8, x9', x10', x11', x12', x13'], (mk t (t.length : Int) l 0 bra ket p1 p2)) := by
  simp only [rowsOk, Bool.and_eq_true, decide_eq_true_eq] at hok
  obtain ⟨⟨⟨⟨hsort, hchain⟩, hsmall⟩, hpos⟩, h50⟩ := hok
  have hTV : ∃ Q, tabV rows = .list Q := ⟨_, rfl⟩
  obtain ⟨Q, hTV⟩ := hTV
  rw [hTV]
  intro n
  induction n with
  | zero =>
    intro i j ci cj fk x9 x10 x11 x12 x13 hI hn
    obtain ⟨h1, _⟩ := hI
    omega
  | succ n ih =>
    intro i j ci cj fk x9 x10 x11 x12 x13 hI hn
    obtain ⟨h1, h2, h3, h4, h5⟩ := hI
    -- the row looked at
    have hk1 : ∃ k : Nat, k = i + (j - i) / 2 := ⟨_, rfl⟩
    obtain ⟨k, hk⟩ := hk1
    have hkn : k < rows.length := by omega
    have hki : (i : Int) + ((j : Int) - (i : Int)) / 2 = (k : Int) := by omega
    have hm1 : ∃ m : Nat, m = min ci cj := ⟨_, rfl⟩
    obtain ⟨m, hm⟩ := hm1
    have hmm : (if (cj : Int) < (ci : Int) then (cj : Int) else (ci : Int)) = (m : Int) := by split <;> omega
    have hml : m ≤ lcp t.reverse (rs rows k) := by
      rcases h3 with ⟨_, h3⟩ | ⟨h3, h3'⟩
      · omega
      · rcases h4 with ⟨_, h4⟩ | ⟨hj, h4, h4'⟩
        · omega
        · exact sandwich m t.reverse (rs rows i) (rs rows k) (rs rows j) (sorted_of hsort hkn (by omega)) (sorted_of hsort hj (by omega)) (by omega) (by omega)
    have hml' : m ≤ lcp t.reverse (rs rows k).reverse.reverse := by rw [List.reverse_reverse]; exact hml
    obtain ⟨x, hx⟩ := inner_s Φ t l bra ket p1 p2 (tabV rows) (.int (i : Int)) (.int (j : Int)) (.int (ci : Int)) (.int (cj : Int)) (.bool fk) (.int (k : Int)) (rs rows k).reverse (sub rows k) (res rows k) m x13 hml' (by rw [List.length_reverse]; exact rs_len hsmall k)
    rw [List.reverse_reverse] at hx
    simp only [mk] at hx
    obtain ⟨d1, d2⟩ := lcp_drop m _ _ hml
    have hc1 := cf_lcp (t.reverse.drop m) ((rs rows k).drop m) m
    have hc2 := cf_le (t.reverse.drop m) ((rs rows k).drop m) m
    rw [← d1] at hc1
    rw [← d2] at hc2
    generalize hD : (cf (t.reverse.drop m) ((rs rows k).drop m) m).1 = D at *
    rw [hc1] at hx
    have htk := tab_idx hkn
    rw [hTV] at htk hx
    generalize hL : lcp t.reverse (rs rows k) = L at *
    rw [iterW_succ]
    cases hle : leT (rs rows k) t.reverse
    · -- above the word
      have hD0 : D < 0 := hc2.2 hle
      by_cases e1 : (k : Int) - (i : Int) ≤ 1
      · by_cases e2 : (0 : Int) < (i : Int)
        · refine ⟨i, ci, .int (k : Int), .int (L : Int), .bool fk, .int (k : Int), .int D, .int (L : Int), .among (rs rows k).reverse (sub rows k) (res rows k), x, ?_, ?_⟩
          · left
            rcases h3 with ⟨h3, _⟩ | ⟨h3, h3'⟩
            · omega
            · exact ⟨by omega, h3, h3', fun m' hm' hx' => by have := above hsort hm' hle hx'; omega⟩
          · unfold OB
            simp only [exec, evalX, evalXs, evalT, locV, mk, Stem.get, Stem.put, truthV, cmpV, retOf, binV, insetV, inlV, negV, minV, lenV, aatV, flat, setL, List.getElem?_cons_zero, List.getElem?_cons_succ, List.set_cons_zero, List.set_cons_succ, List.length_cons, List.length_nil, List.replicate, List.cons_append, List.nil_append, Nat.reduceAdd, Nat.reduceSub, Nat.reduceLT, Nat.reduceEqDiff, Option.bind_eq_bind, Option.bind_some, Option.map_some, decide_true, decide_false, ↓reduceIte, bne_self_eq_false, Bool.bne_true, Bool.bne_false, Bool.not_true, Bool.not_false, Bool.false_eq_true, hki, hmm, htk, ↓hx, hD0, e1, e2]
        · have hi0 : i = 0 := by omega
          by_cases e3 : (k : Int) = (i : Int)
          · refine ⟨i, ci, .int (k : Int), .int (L : Int), .bool fk, .int (k : Int), .int D, .int (L : Int), .among (rs rows k).reverse (sub rows k) (res rows k), x, ?_, ?_⟩
            · have hk0 : k = 0 := by omega
              right
              refine ⟨hi0, ?_, fun m' hm' => ?_⟩
              · rcases h3 with ⟨_, h3⟩ | ⟨h3, _⟩
                · exact h3
                · rw [show i = k by omega, hle] at h3; cases h3
              · cases hx' : leT (rs rows m') t.reverse
                · rfl
                · have := above hsort hm' hle hx'; omega
            · unfold OB
              simp only [exec, evalX, evalXs, evalT, locV, mk, Stem.get, Stem.put, truthV, cmpV, retOf, binV, insetV, inlV, negV, minV, lenV, aatV, flat, setL, List.getElem?_cons_zero, List.getElem?_cons_succ, List.set_cons_zero, List.set_cons_succ, List.length_cons, List.length_nil, List.replicate, List.cons_append, List.nil_append, Nat.reduceAdd, Nat.reduceSub, Nat.reduceLT, Nat.reduceEqDiff, Option.bind_eq_bind, Option.bind_some, Option.map_some, decide_true, decide_false, ↓reduceIte, bne_self_eq_false, Bool.bne_true, Bool.bne_false, Bool.not_true, Bool.not_false, Bool.false_eq_true, hki, hmm, htk, ↓hx, hD0, e1, e2, decide_eq_true e3]
          · -- once more
            have hfk : fk = false := by
              cases fk
              · rfl
              · have := h5 rfl; omega
            subst hfk
            obtain ⟨i', ci', y3, y7, y8, y9, y10, y11, y12, y13, hA, hR⟩ := ih i k ci L true (.int (k : Int)) (.int D) (.int (L : Int)) (.among (rs rows k).reverse (sub rows k) (res rows k)) x
              ⟨by omega, by omega, h3, Or.inr ⟨hkn, hle, hL.symm⟩, fun _ => ⟨hi0, by omega⟩⟩ (by simp at hn ⊢; omega)
            refine ⟨i', ci', y3, y7, y8, y9, y10, y11, y12, y13, hA, ?_⟩
            unfold OB at hR ⊢
            simp only [exec, evalX, evalXs, evalT, locV, mk, Stem.get, Stem.put, truthV, cmpV, retOf, binV, insetV, inlV, negV, minV, lenV, aatV, flat, setL, List.getElem?_cons_zero, List.getElem?_cons_succ, List.set_cons_zero, List.set_cons_succ, List.length_cons, List.length_nil, List.replicate, List.cons_append, List.nil_append, Nat.reduceAdd, Nat.reduceSub, Nat.reduceLT, Nat.reduceEqDiff, Option.bind_eq_bind, Option.bind_some, Option.map_some, decide_true, decide_false, ↓reduceIte, bne_self_eq_false, Bool.bne_true, Bool.bne_false, Bool.not_true, Bool.not_false, Bool.false_eq_true, hki, hmm, htk, ↓hx, hD0, e1, e2, e3]
            simp only [exec, evalX, evalXs, evalT, locV, mk, Stem.get, Stem.put, truthV, cmpV, retOf, binV, insetV, inlV, negV, minV, lenV, aatV, flat, setL, List.getElem?_cons_zero, List.getElem?_cons_succ, List.set_cons_zero, List.set_cons_succ, List.length_cons, List.length_nil, List.replicate, List.cons_append, List.nil_append, Nat.reduceAdd, Nat.reduceSub, Nat.reduceLT, Nat.reduceEqDiff, Option.bind_eq_bind, Option.bind_some, Option.map_some, decide_true, decide_false, ↓reduceIte, bne_self_eq_false, Bool.bne_true, Bool.bne_false, Bool.not_true, Bool.not_false, Bool.false_eq_true] at hR
            exact hR
      · have hfk : fk = false := by
          cases fk
          · rfl
          · have := h5 rfl; omega
        subst hfk
        obtain ⟨i', ci', y3, y7, y8, y9, y10, y11, y12, y13, hA, hR⟩ := ih i k ci L false (.int (k : Int)) (.int D) (.int (L : Int)) (.among (rs rows k).reverse (sub rows k) (res rows k)) x
          ⟨by omega, by omega, h3, Or.inr ⟨hkn, hle, hL.symm⟩, fun h => by cases h⟩ (by simp at hn ⊢; omega)
        refine ⟨i', ci', y3, y7, y8, y9, y10, y11, y12, y13, hA, ?_⟩
        unfold OB at hR ⊢
        simp only [exec, evalX, evalXs, evalT, locV, mk, Stem.get, Stem.put, truthV, cmpV, retOf, binV, insetV, inlV, negV, minV, lenV, aatV, flat, setL, List.getElem?_cons_zero, List.getElem?_cons_succ, List.set_cons_zero, List.set_cons_succ, List.length_cons, List.length_nil, List.replicate, List.cons_append, List.nil_append, Nat.reduceAdd, Nat.reduceSub, Nat.reduceLT, Nat.reduceEqDiff, Option.bind_eq_bind, Option.bind_some, Option.map_some, decide_true, decide_false, ↓reduceIte, bne_self_eq_false, Bool.bne_true, Bool.bne_false, Bool.not_true, Bool.not_false, Bool.false_eq_true, hki, hmm, htk, ↓hx, hD0, e1]
        simp only [exec, evalX, evalXs, evalT, locV, mk, Stem.get, Stem.put, truthV, cmpV, retOf, binV, insetV, inlV, negV, minV, lenV, aatV, flat, setL, List.getElem?_cons_zero, List.getElem?_cons_succ, List.set_cons_zero, List.set_cons_succ, List.length_cons, List.length_nil, List.replicate, List.cons_append, List.nil_append, Nat.reduceAdd, Nat.reduceSub, Nat.reduceLT, Nat.reduceEqDiff, Option.bind_eq_bind, Option.bind_some, Option.map_some, decide_true, decide_false, ↓reduceIte, bne_self_eq_false, Bool.bne_true, Bool.bne_false, Bool.not_true, Bool.not_false, Bool.false_eq_true] at hR
        exact hR
    · -- not above
      have hD0 : ¬ D < 0 := by
        intro h; have := hc2.1 h; rw [hle] at this; cases this
      have hend : j ≤ k + 1 → ∀ m, m < rows.length → leT (rs rows m) t.reverse = true → m ≤ k := by
        intro hj m' hm' hx'
        rcases h4 with ⟨h4, _⟩ | ⟨_, h4, _⟩
        · omega
        · have := above hsort hm' h4 hx'; omega
      by_cases e1 : (j : Int) - (k : Int) ≤ 1
      · by_cases e2 : (0 : Int) < (k : Int)
        · refine ⟨k, L, .int (j : Int), .int (cj : Int), .bool fk, .int (k : Int), .int D, .int (L : Int), .among (rs rows k).reverse (sub rows k) (res rows k), x, ?_, ?_⟩
          · left
            exact ⟨hkn, hle, hL.symm, hend (by omega)⟩
          · unfold OB
            simp only [exec, evalX, evalXs, evalT, locV, mk, Stem.get, Stem.put, truthV, cmpV, retOf, binV, insetV, inlV, negV, minV, lenV, aatV, flat, setL, List.getElem?_cons_zero, List.getElem?_cons_succ, List.set_cons_zero, List.set_cons_succ, List.length_cons, List.length_nil, List.replicate, List.cons_append, List.nil_append, Nat.reduceAdd, Nat.reduceSub, Nat.reduceLT, Nat.reduceEqDiff, Option.bind_eq_bind, Option.bind_some, Option.map_some, decide_true, decide_false, ↓reduceIte, bne_self_eq_false, Bool.bne_true, Bool.bne_false, Bool.not_true, Bool.not_false, Bool.false_eq_true, hki, hmm, htk, ↓hx, hD0, e1, e2]
        · have e3 : ¬ (j : Int) = (k : Int) := by omega
          cases fk
          · obtain ⟨i', ci', y3, y7, y8, y9, y10, y11, y12, y13, hA, hR⟩ := ih k j L cj true (.int (k : Int)) (.int D) (.int (L : Int)) (.among (rs rows k).reverse (sub rows k) (res rows k)) x
              ⟨by omega, by omega, Or.inr ⟨hle, hL.symm⟩, h4, fun _ => ⟨by omega, by omega⟩⟩ (by simp at hn ⊢; omega)
            refine ⟨i', ci', y3, y7, y8, y9, y10, y11, y12, y13, hA, ?_⟩
            unfold OB at hR ⊢
            simp only [exec, evalX, evalXs, evalT, locV, mk, Stem.get, Stem.put, truthV, cmpV, retOf, binV, insetV, inlV, negV, minV, lenV, aatV, flat, setL, List.getElem?_cons_zero, List.getElem?_cons_succ, List.set_cons_zero, List.set_cons_succ, List.length_cons, List.length_nil, List.replicate, List.cons_append, List.nil_append, Nat.reduceAdd, Nat.reduceSub, Nat.reduceLT, Nat.reduceEqDiff, Option.bind_eq_bind, Option.bind_some, Option.map_some, decide_true, decide_false, ↓reduceIte, bne_self_eq_false, Bool.bne_true, Bool.bne_false, Bool.not_true, Bool.not_false, Bool.false_eq_true, hki, hmm, htk, ↓hx, hD0, e1, e2, e3]
            simp only [exec, evalX, evalXs, evalT, locV, mk, Stem.get, Stem.put, truthV, cmpV, retOf, binV, insetV, inlV, negV, minV, lenV, aatV, flat, setL, List.getElem?_cons_zero, List.getElem?_cons_succ, List.set_cons_zero, List.set_cons_succ, List.length_cons, List.length_nil, List.replicate, List.cons_append, List.nil_append, Nat.reduceAdd, Nat.reduceSub, Nat.reduceLT, Nat.reduceEqDiff, Option.bind_eq_bind, Option.bind_some, Option.map_some, decide_true, decide_false, ↓reduceIte, bne_self_eq_false, Bool.bne_true, Bool.bne_false, Bool.not_true, Bool.not_false, Bool.false_eq_true] at hR
            exact hR
          · refine ⟨k, L, .int (j : Int), .int (cj : Int), .bool true, .int (k : Int), .int D, .int (L : Int), .among (rs rows k).reverse (sub rows k) (res rows k), x, ?_, ?_⟩
            · left
              exact ⟨hkn, hle, hL.symm, hend (by omega)⟩
            · unfold OB
              simp only [exec, evalX, evalXs, evalT, locV, mk, Stem.get, Stem.put, truthV, cmpV, retOf, binV, insetV, inlV, negV, minV, lenV, aatV, flat, setL, List.getElem?_cons_zero, List.getElem?_cons_succ, List.set_cons_zero, List.set_cons_succ, List.length_cons, List.length_nil, List.replicate, List.cons_append, List.nil_append, Nat.reduceAdd, Nat.reduceSub, Nat.reduceLT, Nat.reduceEqDiff, Option.bind_eq_bind, Option.bind_some, Option.map_some, decide_true, decide_false, ↓reduceIte, bne_self_eq_false, Bool.bne_true, Bool.bne_false, Bool.not_true, Bool.not_false, Bool.false_eq_true, hki, hmm, htk, ↓hx, hD0, e1, e2, e3]
      · have hfk : fk = false := by
          cases fk
          · rfl
          · have := h5 rfl; omega
        subst hfk
        obtain ⟨i', ci', y3, y7, y8, y9, y10, y11, y12, y13, hA, hR⟩ := ih k j L cj false (.int (k : Int)) (.int D) (.int (L : Int)) (.among (rs rows k).reverse (sub rows k) (res rows k)) x
          ⟨by omega, by omega, Or.inr ⟨hle, hL.symm⟩, h4, fun h => by cases h⟩ (by simp at hn ⊢; omega)
        refine ⟨i', ci', y3, y7, y8, y9, y10, y11, y12, y13, hA, ?_⟩
        unfold OB at hR ⊢
        simp only [exec, evalX, evalXs, evalT, locV, mk, Stem.get, Stem.put, truthV, cmpV, retOf, binV, insetV, inlV, negV, minV, lenV, aatV, flat, setL, List.getElem?_cons_zero, List.getElem?_cons_succ, List.set_cons_zero, List.set_cons_succ, List.length_cons, List.length_nil, List.replicate, List.cons_append, List.nil_append, Nat.reduceAdd, Nat.reduceSub, Nat.reduceLT, Nat.reduceEqDiff, Option.bind_eq_bind, Option.bind_some, Option.map_some, decide_true, decide_false, ↓reduceIte, bne_self_eq_false, Bool.bne_true, Bool.bne_false, Bool.not_true, Bool.not_false, Bool.false_eq_true, hki, hmm, htk, ↓hx, hD0, e1]
        simp only [exec, evalX, evalXs, evalT, locV, mk, Stem.get, Stem.put, truthV, cmpV, retOf, binV, insetV, inlV, negV, minV, lenV, aatV, flat, setL, List.getElem?_cons_zero, List.getElem?_cons_succ, List.set_cons_zero, List.set_cons_succ, List.length_cons, List.length_nil, List.replicate, List.cons_append, List.nil_append, Nat.reduceAdd, Nat.reduceSub, Nat.reduceLT, Nat.reduceEqDiff, Option.bind_eq_bind, Option.bind_some, Option.map_some, decide_true, decide_false, ↓reduceIte, bne_self_eq_false, Bool.bne_true, Bool.bne_false, Bool.not_true, Bool.not_false, Bool.false_eq_true] at hR
        exact hR
end Mine.C
end

section
set_option Elab.async false
set_option maxRecDepth 100000
set_option linter.unusedVariables false
set_option linter.unusedSimpArgs false
namespace Mine.C
theorem chain_x (Φ : Phi) (rows : List Row) (hok : rowsOk rows = true) (t : Tx) (l bra ket p1 p2 : Int) (ci : Nat) (x3 x7 x8 x9 x10 x11 x13 : V) : ∀ (n k : Nat) (x12 : V), k < n → k < rows.length →
    ∃ ρ', iterW (fun ρ σ => evalT Φ ρ (.x (.cst (.bool true))) σ) (fun ρ σ => exec Φ CB ρ σ) n [.slf, tabV rows, .int (k : Int), x3, .int (t.length : Int), .int 0, .int (ci : Int), x7, x8, x9, x10, x11, x12, x13] (mk t (t.length : Int) l 0 bra ket p1 p2)
      = match chain rows ci n (k : Int) with
        | some q => some (.ret (.int (res rows q)), ρ', mk t ((t.length : Int) - ((rs rows q).length : Int)) l 0 bra ket p1 p2)
        | none => some (.ret (.int 0), ρ', mk t (t.length : Int) l 0 bra ket p1 p2) := by
  simp only [rowsOk, Bool.and_eq_true, decide_eq_true_eq] at hok
  obtain ⟨⟨⟨⟨hsort, hchain⟩, hsmall⟩, hpos⟩, h50⟩ := hok
  have hTV : ∃ Q, tabV rows = .list Q := ⟨_, rfl⟩
  obtain ⟨Q, hTV⟩ := hTV
  rw [hTV]
  intro n
  induction n with
  | zero => intro k x12 h; omega
  | succ n ih =>
    intro k x12 hkn hk
    have htk := tab_idx hk
    rw [hTV] at htk
    have e0 : ¬ ((k : Int) < 0) := by omega
    rw [iterW_succ]
    unfold chain
    rw [if_neg e0, Int.toNat_natCast]
    by_cases h1 : (rs rows k).length ≤ ci
    · have h2 : (((rs rows k).length : Nat) : Int) ≤ (ci : Int) := by omega
      refine ⟨[.slf, .list Q, .int (k : Int), x3, .int (t.length : Int), .int 0, .int (ci : Int), x7, x8, x9, x10, x11, .among (rs rows k).reverse (sub rows k) (res rows k), x13], ?_⟩
      rw [if_pos h1]
      unfold CB
      simp only [exec, evalX, evalXs, evalT, locV, mk, Stem.get, Stem.put, truthV, cmpV, retOf, binV, insetV, inlV, negV, minV, lenV, aatV, flat, setL, List.getElem?_cons_zero, List.getElem?_cons_succ, List.set_cons_zero, List.set_cons_succ, List.length_cons, List.length_nil, List.replicate, List.cons_append, List.nil_append, Nat.reduceAdd, Nat.reduceSub, Nat.reduceLT, Nat.reduceEqDiff, Option.bind_eq_bind, Option.bind_some, Option.map_some, decide_true, decide_false, ↓reduceIte, bne_self_eq_false, Bool.bne_true, Bool.bne_false, Bool.not_true, Bool.not_false, Bool.false_eq_true, htk, List.length_reverse, h2]
    · have h2 : ¬ (((rs rows k).length : Nat) : Int) ≤ (ci : Int) := by omega
      rw [if_neg h1]
      have hch := hchain
      simp only [chainB, List.all_eq_true, List.mem_range] at hch
      have := hch k hk
      simp only [Bool.or_eq_true, Bool.and_eq_true, decide_eq_true_eq] at this
      rcases this with ⟨h3, _⟩ | ⟨⟨⟨h3, h4⟩, _⟩, _⟩
      · have hn : chain rows ci n (sub rows k) = none := by
          cases n with
          | zero => rfl
          | succ n => unfold chain; rw [if_pos h3]
        refine ⟨[.slf, .list Q, .int (sub rows k), x3, .int (t.length : Int), .int 0, .int (ci : Int), x7, x8, x9, x10, x11, .among (rs rows k).reverse (sub rows k) (res rows k), x13], ?_⟩
        rw [hn]
        unfold CB
        simp only [exec, evalX, evalXs, evalT, locV, mk, Stem.get, Stem.put, truthV, cmpV, retOf, binV, insetV, inlV, negV, minV, lenV, aatV, flat, setL, List.getElem?_cons_zero, List.getElem?_cons_succ, List.set_cons_zero, List.set_cons_succ, List.length_cons, List.length_nil, List.replicate, List.cons_append, List.nil_append, Nat.reduceAdd, Nat.reduceSub, Nat.reduceLT, Nat.reduceEqDiff, Option.bind_eq_bind, Option.bind_some, Option.map_some, decide_true, decide_false, ↓reduceIte, bne_self_eq_false, Bool.bne_true, Bool.bne_false, Bool.not_true, Bool.not_false, Bool.false_eq_true, htk, List.length_reverse, h2, h3]
      · have h5 : ¬ (sub rows k < 0) := by omega
        have e : sub rows k = (((sub rows k).toNat : Nat) : Int) := by omega
        obtain ⟨ρ', hR⟩ := ih (sub rows k).toNat (.among (rs rows k).reverse (sub rows k) (res rows k)) (by omega) (by omega)
        refine ⟨ρ', ?_⟩
        rw [← e] at hR
        unfold CB at hR ⊢
        simp only [exec, evalX, evalXs, evalT, locV, mk, Stem.get, Stem.put, truthV, cmpV, retOf, binV, insetV, inlV, negV, minV, lenV, aatV, flat, setL, List.getElem?_cons_zero, List.getElem?_cons_succ, List.set_cons_zero, List.set_cons_succ, List.length_cons, List.length_nil, List.replicate, List.cons_append, List.nil_append, Nat.reduceAdd, Nat.reduceSub, Nat.reduceLT, Nat.reduceEqDiff, Option.bind_eq_bind, Option.bind_some, Option.map_some, decide_true, decide_false, ↓reduceIte, bne_self_eq_false, Bool.bne_true, Bool.bne_false, Bool.not_true, Bool.not_false, Bool.false_eq_true, htk, List.length_reverse, h2, h5]
        simp only [exec, evalX, evalXs, evalT, locV, mk, Stem.get, Stem.put, truthV, cmpV, retOf, binV, insetV, inlV, negV, minV, lenV, aatV, flat, setL, List.getElem?_cons_zero, List.getElem?_cons_succ, List.set_cons_zero, List.set_cons_succ, List.length_cons, List.length_nil, List.replicate, List.cons_append, List.nil_append, Nat.reduceAdd, Nat.reduceSub, Nat.reduceLT, Nat.reduceEqDiff, Option.bind_eq_bind, Option.bind_some, Option.map_some, decide_true, decide_false, ↓reduceIte, bne_self_eq_false, Bool.bne_true, Bool.bne_false, Bool.not_true, Bool.not_false, Bool.false_eq_true] at hR
        exact hR
def WO : S := .whl (.x (.cst (.bool true))) OB
def WC : S := .whl (.x (.cst (.bool true))) CB
theorem b6_eq2 : b6 = (.seq (.asg 2 (.cst (.int 0))) (.seq (.asg 3 (.len (.loc 1))) (.seq (.asg 4 (.fld 0 .c)) (.seq (.asg 5 (.fld 0 .lb)) (.seq (.asg 6 (.cst (.int 0))) (.seq (.asg 7 (.cst (.int 0))) (.seq (.asg 8 (.cst (.bool false))) (.seq WO (.seq WC (.seq (.ret (.neg (.cst (.int 1)))) .skip)))))))))) := rfl
theorem call6 (d : Nat) (a b : V) (σ : Sta) : callN FNS (d+1) 6 [a, b] σ = retOf (exec (callN FNS d) b6 [a, b, .undef, .undef, .undef, .undef, .undef, .undef, .undef, .undef, .undef, .undef, .undef, .undef] σ) := rfl
theorem find_among (d : Nat) (rows : List Row) (hok : rowsOk rows = true) (t : Tx) (l bra ket p1 p2 : Int) :
    ∃ o, Best rows t.reverse o ∧ callN FNS (d+1) 6 [.slf, tabV rows] (mk t (t.length : Int) l 0 bra ket p1 p2) = match o with
      | some q => some (.int (res rows q), mk t ((t.length : Int) - ((rs rows q).length : Int)) l 0 bra ket p1 p2)
      | none => some (.int 0, mk t (t.length : Int) l 0 bra ket p1 p2) := by
  have hok' := hok
  simp only [rowsOk, Bool.and_eq_true, decide_eq_true_eq] at hok'
  obtain ⟨⟨⟨⟨hsort, hchain⟩, hsmall⟩, hpos⟩, h50⟩ := hok'
  obtain ⟨i', ci', x3, x7, x8, x9, x10, x11, x12, x13, hA, hR⟩ := outer (callN FNS d) rows hok t l bra ket p1 p2 1000 0 rows.length 0 0 false .undef .undef .undef .undef .undef
    ⟨hpos, Nat.le_refl _, Or.inl ⟨rfl, rfl⟩, Or.inl ⟨rfl, rfl⟩, fun h => by cases h⟩ (by simp; omega)
  have hi' : i' < rows.length := by
    rcases hA with ⟨h, _⟩ | ⟨h, _⟩
    · exact h
    · omega
  obtain ⟨ρ', hC⟩ := chain_x (callN FNS d) rows hok t l bra ket p1 p2 ci' x3 x7 x8 x9 x10 x11 x13 1000 i' x12 (by omega) hi'
  refine ⟨chain rows ci' 1000 i', ?_, ?_⟩
  · rcases hA with ⟨h1, h2, h3, h4⟩ | ⟨h1, h2, h3⟩
    · have hall : ∀ m, m < rows.length → (rs rows m).isPrefixOf t.reverse = true → (rs rows m).isPrefixOf (rs rows i') = true := by
        intro m hm hp
        have := h4 m hm (pre_le _ _ hp)
        exact pre_sandwich _ _ _ hp (sorted_of hsort h1 this) h2
      exact chain_best hchain h1 ci' h3 hall 1000 i' (by omega) h1 (by simp) hall
    · have hn : Best rows t.reverse none := by
        intro m hm
        cases hp : (rs rows m).isPrefixOf t.reverse
        · rfl
        · have := pre_le _ _ hp
          rw [h3 m hm] at this; cases this
      have h0 := h3 0 hpos
      have hlen : ¬ (rs rows 0).length ≤ 0 := by
        intro h
        have : rs rows 0 = [] := List.length_eq_zero_iff.1 (by omega)
        rw [this] at h0
        simp [leT] at h0
      have hc0 := hchain
      simp only [chainB, List.all_eq_true, List.mem_range] at hc0
      have := hc0 0 hpos
      simp only [Bool.or_eq_true, Bool.and_eq_true, decide_eq_true_eq] at this
      have hs0 : sub rows 0 < 0 := by
        rcases this with ⟨h, _⟩ | ⟨⟨⟨h3, h4⟩, _⟩, _⟩
        · exact h
        · omega
      have e : chain rows ci' 1000 (i' : Int) = none := by
        rw [h1, h2]
        show chain rows 0 (999 + 1) ((0 : Nat) : Int) = none
        unfold chain
        rw [if_neg (by omega), Int.toNat_natCast, if_neg hlen]
        show chain rows 0 (998 + 1) _ = none
        unfold chain
        rw [if_pos hs0]
      rw [e]
      exact hn
  · rw [call6, b6_eq2]
    have hl : lenV (tabV rows) = some (.int (rows.length : Int)) := by simp [tabV, lenV]
    have hTV : ∃ Q, tabV rows = .list Q := ⟨_, rfl⟩
    obtain ⟨Q, hTV⟩ := hTV
    rw [hTV] at hl hR hC ⊢
    have w1 := (whl_of (callN FNS d) (.x (.cst (.bool true))) OB _ _).trans hR
    have w2 := (whl_of (callN FNS d) (.x (.cst (.bool true))) CB _ _).trans hC
    simp only [lenV, Option.some.injEq, V.int.injEq] at hl
    change exec (callN FNS d) WO _ _ = _ at w1
    change exec (callN FNS d) WC _ _ = _ at w2
    simp only [mk, Int.natCast_zero] at w1 w2
    cases hch : chain rows ci' 1000 i' with
    | none =>
      rw [hch] at w2
      simp only [exec, evalX, evalXs, evalT, locV, mk, Stem.get, Stem.put, truthV, cmpV, retOf, binV, insetV, inlV, negV, minV, lenV, aatV, flat, setL, List.getElem?_cons_zero, List.getElem?_cons_succ, List.set_cons_zero, List.set_cons_succ, List.length_cons, List.length_nil, List.replicate, List.cons_append, List.nil_append, Nat.reduceAdd, Nat.reduceSub, Nat.reduceLT, Nat.reduceEqDiff, Option.bind_eq_bind, Option.bind_some, Option.map_some, decide_true, decide_false, ↓reduceIte, bne_self_eq_false, Bool.bne_true, Bool.bne_false, Bool.not_true, Bool.not_false, Bool.false_eq_true, hl, w1, w2]
    | some q =>
      rw [hch] at w2
      simp only [exec, evalX, evalXs, evalT, locV, mk, Stem.get, Stem.put, truthV, cmpV, retOf, binV, insetV, inlV, negV, minV, lenV, aatV, flat, setL, List.getElem?_cons_zero, List.getElem?_cons_succ, List.set_cons_zero, List.set_cons_succ, List.length_cons, List.length_nil, List.replicate, List.cons_append, List.nil_append, Nat.reduceAdd, Nat.reduceSub, Nat.reduceLT, Nat.reduceEqDiff, Option.bind_eq_bind, Option.bind_some, Option.map_some, decide_true, decide_false, ↓reduceIte, bne_self_eq_false, Bool.bne_true, Bool.bne_false, Bool.not_true, Bool.not_false, Bool.false_eq_true, hl, w1, w2]
end Mine.C
end

section
set_option Elab.async false
set_option maxRecDepth 100000
set_option linter.unusedVariables false
set_option linter.unusedSimpArgs false
namespace Mine.C
-- the tables, as rows
def T0 : List Row := [([115], -1, 3), ([105, 101, 115], 0, 2), ([115, 115, 101, 115], 0, 1), ([115, 115], 0, -1)]
def T1 : List Row := [([], -1, 3), ([98, 98], 0, 2), ([100, 100], 0, 2), ([102, 102], 0, 2), ([103, 103], 0, 2), ([98, 108], 0, 1), ([109, 109], 0, 2), ([110, 110], 0, 2), ([112, 112], 0, 2), ([114, 114], 0, 2), ([97, 116], 0, 1), ([116, 116], 0, 2), ([105, 122], 0, 1)]
def T2 : List Row := [([101, 100], -1, 2), ([101, 101, 100], 0, 1), ([105, 110, 103], -1, 2)]
def T3 : List Row := [([97, 110, 99, 105], -1, 3), ([101, 110, 99, 105], -1, 2), ([97, 98, 108, 105], -1, 4), ([101, 108, 105], -1, 6), ([97, 108, 108, 105], -1, 9), ([111, 117, 115, 108, 105], -1, 11), ([101, 110, 116, 108, 105], -1, 5), ([97, 108, 105, 116, 105], -1, 9), ([98, 105, 108, 105, 116, 105], -1, 13), ([105, 118, 105, 116, 105], -1, 12), ([116, 105, 111, 110, 97, 108], -1, 1), ([97, 116, 105, 111, 110, 97, 108], 10, 8), ([97, 108, 105, 115, 109], -1, 9), ([97, 116, 105, 111, 110], -1, 8), ([105, 122, 97, 116, 105, 111, 110], 13, 7), ([105, 122, 101, 114], -1, 7), ([97, 116, 111, 114], -1, 8), ([105, 118, 101, 110, 101, 115, 115], -1, 12), ([102, 117, 108, 110, 101, 115, 115], -1, 10), ([111, 117, 115, 110, 101, 115, 115], -1, 11)]
def T4 : List Row := [([105, 99, 97, 116, 101], -1, 2), ([97, 116, 105, 118, 101], -1, 3), ([97, 108, 105, 122, 101], -1, 1), ([105, 99, 105, 116, 105], -1, 2), ([105, 99, 97, 108], -1, 2), ([102, 117, 108], -1, 3), ([110, 101, 115, 115], -1, 3)]
def T5 : List Row := [([105, 99], -1, 1), ([97, 110, 99, 101], -1, 1), ([101, 110, 99, 101], -1, 1), ([97, 98, 108, 101], -1, 1), ([105, 98, 108, 101], -1, 1), ([97, 116, 101], -1, 1), ([105, 118, 101], -1, 1), ([105, 122, 101], -1, 1), ([105, 116, 105], -1, 1), ([97, 108], -1, 1), ([105, 115, 109], -1, 1), ([105, 111, 110], -1, 2), ([101, 114], -1, 1), ([111, 117, 115], -1, 1), ([97, 110, 116], -1, 1), ([101, 110, 116], -1, 1), ([109, 101, 110, 116], 15, 1), ([101, 109, 101, 110, 116], 16, 1), ([111, 117], -1, 1)]
def rep3 (k : Nat) : Tx := ([[97, 110, 99, 101], [101, 110, 99, 101], [97, 98, 108, 101], [101], [97, 108], [111, 117, 115], [101, 110, 116], [97, 108], [98, 108, 101], [105, 118, 101], [116, 105, 111, 110], [97, 116, 101], [97, 108], [97, 116, 101], [105, 122, 101], [105, 122, 101], [97, 116, 101], [105, 118, 101], [102, 117, 108], [111, 117, 115]][k]?).getD []
def rep4 (k : Nat) : Tx := ([[105, 99], [], [97, 108], [105, 99], [105, 99], [], []][k]?).getD []
theorem T0_v : vA0 = tabV T0 := rfl
theorem T1_v : vA1 = tabV T1 := rfl
theorem T2_v : vA2 = tabV T2 := rfl
theorem T3_v : vA3 = tabV T3 := rfl
theorem T4_v : vA4 = tabV T4 := rfl
theorem T5_v : vA5 = tabV T5 := rfl
theorem T0_ok : rowsOk T0 = true := by decide +kernel
theorem T1_ok : rowsOk T1 = true := by decide +kernel
theorem T2_ok : rowsOk T2 = true := by decide +kernel
theorem T3_ok : rowsOk T3 = true := by decide +kernel
theorem T4_ok : rowsOk T4 = true := by decide +kernel
theorem T5_ok : rowsOk T5 = true := by decide +kernel
def nodupB (rows : List Row) : Bool := (List.range rows.length).all fun a => (List.range rows.length).all fun b => decide (a = b) || !decide (rs rows a = rs rows b)
theorem best_unique {rows : List Row} (hn : nodupB rows = true) {W : Tx} : ∀ {o o' : Option Nat}, Best rows W o → Best rows W o' → o = o'
  | none, none, _, _ => rfl
  | some k, none, h, h' => by have := h' k h.1; rw [h.2.1] at this; cases this
  | none, some k, h', h => by have := h' k h.1; rw [h.2.1] at this; cases this
  | some k, some k', h, h' => by
    have h1 := h.2.2 k' h'.1 h'.2.1
    have h2 := h'.2.2 k h.1 h.2.1
    rw [List.isPrefixOf_iff_prefix] at h1 h2
    have e : rs rows k = rs rows k' := List.IsPrefix.eq_of_length h2 (Nat.le_antisymm h2.length_le h1.length_le)
    simp only [nodupB, List.all_eq_true, List.mem_range] at hn
    have := hn k h.1 k' h'.1
    simp only [Bool.or_eq_true, decide_eq_true_eq, Bool.not_eq_true', decide_eq_false_iff_not] at this
    rcases this with h | h
    · rw [h]
    · exact absurd e h
open Classical in
noncomputable def best (rows : List Row) (W : Tx) : Option Nat := if h : ∃ o, Best rows W o then Classical.choose h else none
theorem best_is {rows : List Row} (hok : rowsOk rows = true) (W : Tx) : Best rows W (best rows W) := by
  obtain ⟨o, ho, _⟩ := find_among 0 rows hok W.reverse 0 0 0 0 0
  rw [List.reverse_reverse] at ho
  have h : ∃ o, Best rows W o := ⟨o, ho⟩
  unfold best
  rw [dif_pos h]
  exact Classical.choose_spec h
theorem best_eq {rows : List Row} (hok : rowsOk rows = true) (hn : nodupB rows = true) {W : Tx} {o : Option Nat} (h : Best rows W o) : best rows W = o := best_unique hn (best_is hok W) h
theorem Best.congr {rows : List Row} {W W' : Tx} (h : ∀ m, m < rows.length → (rs rows m).isPrefixOf W = (rs rows m).isPrefixOf W') {o : Option Nat} (hb : Best rows W o) : Best rows W' o := by
  cases o with
  | none => intro m hm; rw [← h m hm]; exact hb m hm
  | some k => exact ⟨hb.1, by rw [← h k hb.1]; exact hb.2.1, fun m hm hp => hb.2.2 m hm (by rw [h m hm]; exact hp)⟩
theorem best_congr {rows : List Row} (hok : rowsOk rows = true) (hn : nodupB rows = true) {W W' : Tx} (h : ∀ m, m < rows.length → (rs rows m).isPrefixOf W = (rs rows m).isPrefixOf W') : best rows W = best rows W' :=
  (best_eq hok hn (Best.congr (fun m hm => (h m hm).symm) (best_is hok W'))).trans rfl
theorem T0_nd : nodupB T0 = true := by decide +kernel
theorem T1_nd : nodupB T1 = true := by decide +kernel
theorem T2_nd : nodupB T2 = true := by decide +kernel
theorem T3_nd : nodupB T3 = true := by decide +kernel
theorem T4_nd : nodupB T4 = true := by decide +kernel
theorem T5_nd : nodupB T5 = true := by decide +kernel
/-- the table's search, by the best row -/
theorem find_b (d : Nat) (rows : List Row) (hok : rowsOk rows = true) (hn : nodupB rows = true) (t : Tx) (l bra ket p1 p2 : Int) :
    callN FNS (d+1) 6 [.slf, tabV rows] (mk t (t.length : Int) l 0 bra ket p1 p2) = match best rows t.reverse with
      | some q => some (.int (res rows q), mk t ((t.length - (rs rows q).length : Nat) : Int) l 0 bra ket p1 p2)
      | none => some (.int 0, mk t (t.length : Int) l 0 bra ket p1 p2) := by
  obtain ⟨o, ho, hR⟩ := find_among d rows hok t l bra ket p1 p2
  rw [best_eq hok hn ho, hR]
  cases o with
  | none => rfl
  | some k =>
    have := ho.2.1
    rw [List.isPrefixOf_iff_prefix] at this
    have := this.length_le
    rw [List.length_reverse] at this
    have e : ((t.length : Int) - ((rs rows k).length : Int)) = ((t.length - (rs rows k).length : Nat) : Int) := by omega
    simp only [e]
/-- one text ends another -/
abbrev sfx (s m : Tx) : Bool := s.isSuffixOf m
def dblL : List Nat := [98, 100, 102, 103, 109, 110, 112, 114, 116]
def dblR : Tx → Bool
  | a :: b :: _ => decide (a = b) && dblL.contains a
  | _ => false
def A1 (m : Tx) : Option Tx := if sfx [115] m && !sfx [115, 115] m then (if sfx [115, 115, 101, 115] m || sfx [105, 101, 115] m then some (m.take (m.length - 2)) else some (m.take (m.length - 1))) else none
def tail2 (p1 : Nat) (x : Tx) : Tx := if sfx [97, 116] x || sfx [98, 108] x || sfx [105, 122] x then x ++ [101] else if dblR x.reverse then x.take (x.length - 1) else if x.length = p1 ∧ shR x.reverse = true then x ++ [101] else x
def A2 (p1 : Nat) (m : Tx) : Option Tx :=
  if sfx [101, 101, 100] m then (if p1 + 3 ≤ m.length then some (m.take (m.length - 1)) else none)
  else if sfx [101, 100] m then (if (m.take (m.length - 2)).any isV then some (tail2 p1 (m.take (m.length - 2))) else none)
  else if sfx [105, 110, 103] m then (if (m.take (m.length - 3)).any isV then some (tail2 p1 (m.take (m.length - 3))) else none)
  else none
def A3 (m : Tx) : Option Tx := if (sfx [121] m || sfx [89] m) && (m.take (m.length - 1)).any isV then some (m.take (m.length - 1) ++ [105]) else none
noncomputable def A4 (p1 : Nat) (m : Tx) : Option Tx := match best T3 m.reverse with
  | some k => if p1 + (rs T3 k).length ≤ m.length then some (m.take (m.length - (rs T3 k).length) ++ rep3 k) else none
  | none => none
noncomputable def A5 (p1 : Nat) (m : Tx) : Option Tx := match best T4 m.reverse with
  | some k => if p1 + (rs T4 k).length ≤ m.length then some (m.take (m.length - (rs T4 k).length) ++ rep4 k) else none
  | none => none
noncomputable def A6 (p2 : Nat) (m : Tx) : Option Tx := match best T5 m.reverse with
  | some k => if p2 + (rs T5 k).length ≤ m.length then (if k ≠ 11 ∨ sfx [115] (m.take (m.length - (rs T5 k).length)) = true ∨ sfx [116] (m.take (m.length - (rs T5 k).length)) = true then some (m.take (m.length - (rs T5 k).length)) else none) else none
  | none => none
def A7 (p1 p2 : Nat) (m : Tx) : Option Tx := if sfx [101] m then (if p2 + 1 ≤ m.length ∨ (p1 + 1 ≤ m.length ∧ shR (m.take (m.length - 1)).reverse = false) then some (m.take (m.length - 1)) else none) else none
def A8 (p2 : Nat) (m : Tx) : Option Tx := if sfx [108, 108] m = true ∧ p2 + 1 ≤ m.length then some (m.take (m.length - 1)) else none
end Mine.C
end

section
set_option Elab.async false
set_option maxRecDepth 100000
set_option linter.unusedVariables false
set_option linter.unusedSimpArgs false
namespace Mine.C
theorem pre_mono {P Q W : Tx} (h1 : P.isPrefixOf Q = true) (h2 : Q.isPrefixOf W = true) : P.isPrefixOf W = true := by
  rw [List.isPrefixOf_iff_prefix] at *
  exact List.IsPrefix.trans h1 h2
theorem pre_pre {P Q W : Tx} (h1 : P.isPrefixOf W = true) (h2 : Q.isPrefixOf W = true) (hl : P.length ≤ Q.length) : P.isPrefixOf Q = true := by
  rw [List.isPrefixOf_iff_prefix] at *
  exact List.prefix_of_prefix_length_le h1 h2 hl
theorem pre_excl {P Q W : Tx} (h2 : Q.isPrefixOf W = true) (hl : P.length ≤ Q.length) (h : P.isPrefixOf Q = false) : P.isPrefixOf W = false := by
  cases h1 : P.isPrefixOf W
  · rfl
  · rw [pre_pre h1 h2 hl] at h; cases h
theorem best_some {rows : List Row} {W : Tx} {k : Nat} (hk : k < rows.length) (hp : (rs rows k).isPrefixOf W = true) (hl : ∀ m, m < rows.length → (rs rows k).length < (rs rows m).length → (rs rows m).isPrefixOf W = false) : Best rows W (some k) := by
  refine ⟨hk, hp, fun m hm hpm => ?_⟩
  by_cases h : (rs rows k).length < (rs rows m).length
  · rw [hl m hm h] at hpm; cases hpm
  · exact pre_pre hpm hp (by omega)
/-- a text that ends so is made so -/
theorem pre_split {P m : Tx} (h : P.isPrefixOf m.reverse = true) : m = m.take (m.length - P.length) ++ P.reverse ∧ P.length ≤ m.length := by
  rw [List.isPrefixOf_iff_prefix] at h
  obtain ⟨r, hr⟩ := h
  have e : m = r.reverse ++ P.reverse := by rw [← List.reverse_reverse m, ← hr]; simp
  have el : m.length = r.length + P.length := by rw [e]; simp
  refine ⟨?_, by omega⟩
  have : m.take (m.length - P.length) = r.reverse := by
    rw [show m.length - P.length = r.reverse.length by simp; omega]
    rw [e, List.take_left']
    rfl
  rw [this]; exact e
theorem take_app (x y : Tx) (k : Nat) : (x ++ y).take (x.length + k) = x ++ y.take k := by
  rw [List.take_append, List.take_of_length_le (by omega), Nat.add_sub_cancel_left]
theorem put_end (m s : Tx) (q : Nat) : put m q m.length s = m.take q ++ s := by simp [put]
theorem best_T0_2 {W : Tx} (h2 : (rs T0 2).isPrefixOf W = true) : best T0 W = some 2 := by
  refine best_eq T0_ok T0_nd (best_some (by decide) h2 fun m hm hl => ?_)
  have : m = 0 ∨ m = 1 ∨ m = 2 ∨ m = 3 := by have : T0.length = 4 := rfl; omega
  rcases this with rfl | rfl | rfl | rfl <;> first | exact absurd hl (by decide) | assumption
theorem best_T0_1 {W : Tx} (h2 : (rs T0 2).isPrefixOf W = false) (h1 : (rs T0 1).isPrefixOf W = true) : best T0 W = some 1 := by
  refine best_eq T0_ok T0_nd (best_some (by decide) h1 fun m hm hl => ?_)
  have : m = 0 ∨ m = 1 ∨ m = 2 ∨ m = 3 := by have : T0.length = 4 := rfl; omega
  rcases this with rfl | rfl | rfl | rfl <;> first | exact absurd hl (by decide) | assumption
theorem best_T0_3 {W : Tx} (h2 : (rs T0 2).isPrefixOf W = false) (h1 : (rs T0 1).isPrefixOf W = false) (h3 : (rs T0 3).isPrefixOf W = true) : best T0 W = some 3 := by
  refine best_eq T0_ok T0_nd (best_some (by decide) h3 fun m hm hl => ?_)
  have : m = 0 ∨ m = 1 ∨ m = 2 ∨ m = 3 := by have : T0.length = 4 := rfl; omega
  rcases this with rfl | rfl | rfl | rfl <;> first | exact absurd hl (by decide) | assumption
theorem best_T0_0 {W : Tx} (h2 : (rs T0 2).isPrefixOf W = false) (h1 : (rs T0 1).isPrefixOf W = false) (h3 : (rs T0 3).isPrefixOf W = false) (h0 : (rs T0 0).isPrefixOf W = true) : best T0 W = some 0 := by
  refine best_eq T0_ok T0_nd (best_some (by decide) h0 fun m hm hl => ?_)
  have : m = 0 ∨ m = 1 ∨ m = 2 ∨ m = 3 := by have : T0.length = 4 := rfl; omega
  rcases this with rfl | rfl | rfl | rfl <;> first | exact absurd hl (by decide) | assumption
theorem best_T0_n {W : Tx} (h0 : (rs T0 0).isPrefixOf W = false) : best T0 W = none := by
  refine best_eq T0_ok T0_nd fun m hm => ?_
  have : m = 0 ∨ m = 1 ∨ m = 2 ∨ m = 3 := by have : T0.length = 4 := rfl; omega
  cases hp : (rs T0 m).isPrefixOf W
  · rfl
  · rw [← h0]
    symm
    refine pre_mono ?_ hp
    rcases this with rfl | rfl | rfl | rfl <;> decide
theorem call18 (d : Nat) (a : V) (σ : Sta) : callN FNS (d+1) 18 [a] σ = retOf (exec (callN FNS d) b18 [a, .undef] σ) := rfl
theorem step1a (d : Nat) (m : Tx) (bra ket p1 p2 : Int) (hm : m.length ≤ 100) : ∃ b c br ke, callN FNS (d+4) 18 [.slf] (mk m m.length m.length 0 bra ket p1 p2) = some (.bool b, mk ((A1 m).getD m) c ((A1 m).getD m).length 0 br ke p1 p2) := by
  have hf := find_b (d+2) T0 T0_ok T0_nd m m.length bra m.length p1 p2
  have g2 : glbs[2]? = some (tabV T0) := rfl
  have g8 : glbs[8]? = some vS0 := rfl
  have i0 : idxV vS0 (.int 0) = some (.str [115, 115]) := rfl
  have i1 : idxV vS0 (.int 1) = some (.str [105]) := rfl
  have i2 : idxV vS0 (.int 2) = some (.str []) := rfl
  have u0 : sfx [115] m = (rs T0 0).isPrefixOf m.reverse := rfl
  have u1 : sfx [105, 101, 115] m = (rs T0 1).isPrefixOf m.reverse := rfl
  have u2 : sfx [115, 115, 101, 115] m = (rs T0 2).isPrefixOf m.reverse := rfl
  have u3 : sfx [115, 115] m = (rs T0 3).isPrefixOf m.reverse := rfl
  simp only [mk] at hf
  cases h2 : (rs T0 2).isPrefixOf m.reverse
  · cases h1 : (rs T0 1).isPrefixOf m.reverse
    · cases h3 : (rs T0 3).isPrefixOf m.reverse
      · cases h0 : (rs T0 0).isPrefixOf m.reverse
        · have hb := best_T0_n h0
          have hA : A1 m = none := by unfold A1; rw [u0, h0]; rfl
          rw [hb] at hf
          rw [hA]
          refine ⟨false, m.length, bra, m.length, ?_⟩
          simp only [exec, evalX, evalXs, evalT, locV, mk, Stem.get, Stem.put, truthV, cmpV, retOf, binV, insetV, inlV, negV, minV, lenV, aatV, flat, setL, List.getElem?_cons_zero, List.getElem?_cons_succ, List.set_cons_zero, List.set_cons_succ, List.length_cons, List.length_nil, List.replicate, List.cons_append, List.nil_append, Nat.reduceAdd, Nat.reduceSub, Nat.reduceLT, Nat.reduceEqDiff, Option.bind_eq_bind, Option.bind_some, Option.map_some, decide_true, decide_false, ↓reduceIte, bne_self_eq_false, Bool.bne_true, Bool.bne_false, Bool.not_true, Bool.not_false, Bool.false_eq_true, call18, b18, g2, hf, Option.getD_none]
        · have hb := best_T0_0 h2 h1 h3 h0
          have hA : A1 m = some (m.take (m.length - 1)) := by unfold A1; rw [u0, u1, u2, u3, h0, h1, h2, h3]; rfl
          have hs := slice_from (d+1) m [] ((m.length - 1 : Nat) : Int) 0 p1 p2 (m.length - 1) m.length (by omega) (by simp) (by omega) (by omega)
          rw [put_end, List.append_nil] at hs
          rw [hb] at hf
          rw [hA]
          have r0 : res T0 0 = 3 := rfl
          have l0 : (rs T0 0).length = 1 := rfl
          simp only [mk] at hs
          refine ⟨true, rc ((m.length - 1 : Nat) : Int) ((m.length - 1 : Nat) : Int) m.length 0, ((m.length - 1 : Nat) : Int), ((m.length - 1 : Nat) : Int) + 0, ?_⟩
          simp only [exec, evalX, evalXs, evalT, locV, mk, Stem.get, Stem.put, truthV, cmpV, retOf, binV, insetV, inlV, negV, minV, lenV, aatV, flat, setL, List.getElem?_cons_zero, List.getElem?_cons_succ, List.set_cons_zero, List.set_cons_succ, List.length_cons, List.length_nil, List.replicate, List.cons_append, List.nil_append, Nat.reduceAdd, Nat.reduceSub, Nat.reduceLT, Nat.reduceEqDiff, Option.bind_eq_bind, Option.bind_some, Option.map_some, decide_true, decide_false, ↓reduceIte, bne_self_eq_false, Bool.bne_true, Bool.bne_false, Bool.not_true, Bool.not_false, Bool.false_eq_true, call18, b18, g2, g8, hf, r0, l0, hs, i2, Option.getD_some, Int.reduceSub, Int.reduceLT, Int.reduceEq]
          rfl
      · have hb := best_T0_3 h2 h1 h3
        have h0 : (rs T0 0).isPrefixOf m.reverse = true := pre_mono (by decide) h3
        have hA : A1 m = none := by unfold A1; rw [u0, u3, h0, h3]; rfl
        rw [hb] at hf
        rw [hA]
        have r0 : res T0 3 = -1 := rfl
        have l0 : (rs T0 3).length = 2 := rfl
        refine ⟨true, ((m.length - 2 : Nat) : Int), ((m.length - 2 : Nat) : Int), m.length, ?_⟩
        simp only [exec, evalX, evalXs, evalT, locV, mk, Stem.get, Stem.put, truthV, cmpV, retOf, binV, insetV, inlV, negV, minV, lenV, aatV, flat, setL, List.getElem?_cons_zero, List.getElem?_cons_succ, List.set_cons_zero, List.set_cons_succ, List.length_cons, List.length_nil, List.replicate, List.cons_append, List.nil_append, Nat.reduceAdd, Nat.reduceSub, Nat.reduceLT, Nat.reduceEqDiff, Option.bind_eq_bind, Option.bind_some, Option.map_some, decide_true, decide_false, ↓reduceIte, bne_self_eq_false, Bool.bne_true, Bool.bne_false, Bool.not_true, Bool.not_false, Bool.false_eq_true, call18, b18, g2, g8, hf, r0, l0, Option.getD_none, Int.reduceSub, Int.reduceLT, Int.reduceEq]
    · have hb := best_T0_1 h2 h1
      have h0 : (rs T0 0).isPrefixOf m.reverse = true := pre_mono (by decide) h1
      have h3 : (rs T0 3).isPrefixOf m.reverse = false := pre_excl h1 (by decide) (by decide)
      obtain ⟨e1, e2⟩ := pre_split h1
      have l0 : (rs T0 1).length = 3 := rfl
      rw [l0] at e1 e2
      have hA : A1 m = some (m.take (m.length - 3) ++ [105]) := by
        unfold A1
        rw [u0, u1, u2, u3, h0, h1, h2, h3]
        have : m.take (m.length - 2) = m.take (m.length - 3) ++ [105] := by
          have : (m.take (m.length - 3)).length = m.length - 3 := by simp
          generalize hx : m.take (m.length - 3) = x at *
          have e3 : m.length = x.length + 3 := by omega
          rw [show m.length - 2 = x.length + 1 by omega, e1]
          show (x ++ [105, 101, 115]).take (x.length + 1) = _
          rw [take_app]; rfl
        rw [this]; rfl
      have hs := slice_from (d+1) m [105] ((m.length - 3 : Nat) : Int) 0 p1 p2 (m.length - 3) m.length (by omega) (by simp) (by omega) (by omega)
      rw [put_end] at hs
      rw [hb] at hf
      rw [hA]
      have r0 : res T0 1 = 2 := rfl
      simp only [mk] at hs
      refine ⟨true, rc ((m.length - 3 : Nat) : Int) ((m.length - 3 : Nat) : Int) m.length 1, ((m.length - 3 : Nat) : Int), ((m.length - 3 : Nat) : Int) + 1, ?_⟩
      simp only [exec, evalX, evalXs, evalT, locV, mk, Stem.get, Stem.put, truthV, cmpV, retOf, binV, insetV, inlV, negV, minV, lenV, aatV, flat, setL, List.getElem?_cons_zero, List.getElem?_cons_succ, List.set_cons_zero, List.set_cons_succ, List.length_cons, List.length_nil, List.replicate, List.cons_append, List.nil_append, Nat.reduceAdd, Nat.reduceSub, Nat.reduceLT, Nat.reduceEqDiff, Option.bind_eq_bind, Option.bind_some, Option.map_some, decide_true, decide_false, ↓reduceIte, bne_self_eq_false, Bool.bne_true, Bool.bne_false, Bool.not_true, Bool.not_false, Bool.false_eq_true, call18, b18, g2, g8, hf, r0, l0, hs, i1, Option.getD_some, Int.reduceSub, Int.reduceLT, Int.reduceEq]
      rfl
  · have hb := best_T0_2 h2
    have h0 : (rs T0 0).isPrefixOf m.reverse = true := pre_mono (by decide) h2
    have h3 : (rs T0 3).isPrefixOf m.reverse = false := pre_excl h2 (by decide) (by decide)
    obtain ⟨e1, e2⟩ := pre_split h2
    have l0 : (rs T0 2).length = 4 := rfl
    rw [l0] at e1 e2
    have hA : A1 m = some (m.take (m.length - 4) ++ [115, 115]) := by
      unfold A1
      rw [u0, u2, u3, h0, h2, h3]
      have : m.take (m.length - 2) = m.take (m.length - 4) ++ [115, 115] := by
        have : (m.take (m.length - 4)).length = m.length - 4 := by simp
        generalize hx : m.take (m.length - 4) = x at *
        rw [show m.length - 2 = x.length + 2 by omega, e1]
        show (x ++ [115, 115, 101, 115]).take (x.length + 2) = _
        rw [take_app]; rfl
      rw [this]; rfl
    have hs := slice_from (d+1) m [115, 115] ((m.length - 4 : Nat) : Int) 0 p1 p2 (m.length - 4) m.length (by omega) (by simp) (by omega) (by omega)
    rw [put_end] at hs
    rw [hb] at hf
    rw [hA]
    have r0 : res T0 2 = 1 := rfl
    simp only [mk] at hs
    refine ⟨true, rc ((m.length - 4 : Nat) : Int) ((m.length - 4 : Nat) : Int) m.length 2, ((m.length - 4 : Nat) : Int), ((m.length - 4 : Nat) : Int) + 2, ?_⟩
    simp only [exec, evalX, evalXs, evalT, locV, mk, Stem.get, Stem.put, truthV, cmpV, retOf, binV, insetV, inlV, negV, minV, lenV, aatV, flat, setL, List.getElem?_cons_zero, List.getElem?_cons_succ, List.set_cons_zero, List.set_cons_succ, List.length_cons, List.length_nil, List.replicate, List.cons_append, List.nil_append, Nat.reduceAdd, Nat.reduceSub, Nat.reduceLT, Nat.reduceEqDiff, Option.bind_eq_bind, Option.bind_some, Option.map_some, decide_true, decide_false, ↓reduceIte, bne_self_eq_false, Bool.bne_true, Bool.bne_false, Bool.not_true, Bool.not_false, Bool.false_eq_true, call18, b18, g2, g8, hf, r0, l0, hs, i0, Option.getD_some, Int.reduceSub, Int.reduceLT, Int.reduceEq]
    rfl
end Mine.C
end

section
set_option Elab.async false
set_option maxRecDepth 100000
set_option linter.unusedVariables false
set_option linter.unusedSimpArgs false
namespace Mine.C
theorem whl_brk (Φ : Phi) {t : T} {a : S} {ρ ρ' : List V} {σ σ' : Sta} (ht : evalT Φ ρ t σ = some (true, σ)) (h : exec Φ a ρ σ = some (.brk, ρ', σ')) : exec Φ (.whl t a) ρ σ = some (.next, ρ', σ') := by
  rw [whl_of]
  show iterW _ _ (999 + 1) _ _ = _
  rw [iterW_succ]
  simp only [ht, h, Option.bind_eq_bind, Option.bind_some, ↓reduceIte]
theorem whl_ret (Φ : Phi) {t : T} {a : S} {ρ ρ' : List V} {σ σ' : Sta} {v : V} (ht : evalT Φ ρ t σ = some (true, σ)) (h : exec Φ a ρ σ = some (.ret v, ρ', σ')) : exec Φ (.whl t a) ρ σ = some (.ret v, ρ', σ') := by
  rw [whl_of]
  show iterW _ _ (999 + 1) _ _ = _
  rw [iterW_succ]
  simp only [ht, h, Option.bind_eq_bind, Option.bind_some, ↓reduceIte]
theorem sfx1 (k a : Nat) (x : Tx) : sfx [k] (x ++ [a]) = (k == a) := by
  simp [List.isSuffixOf, List.isPrefixOf]
theorem idx_last (x : Tx) (a : Nat) : idxV (.str (x ++ [a])) (.int (x.length : Int)) = some (.str [a]) := idx_app x [] a
theorem last_or (m : Tx) : m = [] ∨ ∃ x a, m = x ++ [a] := by
  rcases List.eq_nil_or_concat m with h | ⟨x, a, h⟩
  · exact Or.inl h
  · exact Or.inr ⟨x, a, by simpa using h⟩
/-- one of two signs stands at the cursor's left -/
def WY (u v : Nat) : S := .whl (.x (.cst (.bool true))) (.seq (.tryx 0 (.seq (.ife (.or (.x (.cmp .le (.fld 0 .c) (.fld 0 .lb))) (.or (.x (.cmp .ne (.idx (.fld 0 .cur) (.bin .sub (.fld 0 .c) (.cst (.int 1)))) (.cst (.str [u])))) .ff)) (.seq (.raise 0) .skip) .skip) (.seq (.augf 0 .c .sub (.cst (.int 1))) (.seq .brk .skip)))) (.seq (.ife (.or (.x (.cmp .le (.fld 0 .c) (.fld 0 .lb))) (.or (.x (.cmp .ne (.idx (.fld 0 .cur) (.bin .sub (.fld 0 .c) (.cst (.int 1)))) (.cst (.str [v])))) .ff)) (.seq (.ret (.cst (.bool false))) .skip) .skip) (.seq (.augf 0 .c .sub (.cst (.int 1))) (.seq .brk .skip))))
theorem wy_0 (Φ : Phi) (u v : Nat) (r : List V) (t : Tx) (l bra ket p1 p2 : Int) : exec Φ (WY u v) (.slf :: r) (mk t 0 l 0 bra ket p1 p2) = some (.ret (.bool false), .slf :: r, mk t 0 l 0 bra ket p1 p2) := by
  refine whl_ret Φ (by simp only [exec, evalX, evalXs, evalT, locV, mk, Stem.get, Stem.put, truthV, cmpV, retOf, binV, insetV, inlV, negV, minV, lenV, aatV, flat, setL, List.getElem?_cons_zero, List.getElem?_cons_succ, List.set_cons_zero, List.set_cons_succ, List.length_cons, List.length_nil, List.replicate, List.cons_append, List.nil_append, Nat.reduceAdd, Nat.reduceSub, Nat.reduceLT, Nat.reduceEqDiff, Option.bind_eq_bind, Option.bind_some, Option.map_some, decide_true, decide_false, ↓reduceIte, bne_self_eq_false, Bool.bne_true, Bool.bne_false, Bool.not_true, Bool.not_false, Bool.false_eq_true]) ?_
  have h : (0 : Int) ≤ 0 := by omega
  simp only [exec, evalX, evalXs, evalT, locV, mk, Stem.get, Stem.put, truthV, cmpV, retOf, binV, insetV, inlV, negV, minV, lenV, aatV, flat, setL, List.getElem?_cons_zero, List.getElem?_cons_succ, List.set_cons_zero, List.set_cons_succ, List.length_cons, List.length_nil, List.replicate, List.cons_append, List.nil_append, Nat.reduceAdd, Nat.reduceSub, Nat.reduceLT, Nat.reduceEqDiff, Option.bind_eq_bind, Option.bind_some, Option.map_some, decide_true, decide_false, ↓reduceIte, bne_self_eq_false, Bool.bne_true, Bool.bne_false, Bool.not_true, Bool.not_false, Bool.false_eq_true, h, eq_self]
theorem wy_1 (Φ : Phi) (u v : Nat) (r : List V) (t x R : Tx) (a : Nat) (l bra ket p1 p2 : Int) (ht : t = x ++ a :: R) : exec Φ (WY u v) (.slf :: r) (mk t ((x.length : Int) + 1) l 0 bra ket p1 p2) =
    if a = u ∨ a = v then some (.next, .slf :: r, mk t (x.length : Int) l 0 bra ket p1 p2) else some (.ret (.bool false), .slf :: r, mk t ((x.length : Int) + 1) l 0 bra ket p1 p2) := by
  have h0 : ¬ ((x.length : Int) + 1 ≤ 0) := by omega
  have h1 : (x.length : Int) + 1 - 1 = (x.length : Int) := by omega
  have hx : idxV (.str t) (.int (x.length : Int)) = some (.str [a]) := by rw [ht]; exact idx_app _ _ _
  by_cases h2 : a = u
  · have h3 : decide ([a] = [u]) = true := by simp [h2]
    rw [if_pos (Or.inl h2)]
    refine whl_brk Φ (by simp only [exec, evalX, evalXs, evalT, locV, mk, Stem.get, Stem.put, truthV, cmpV, retOf, binV, insetV, inlV, negV, minV, lenV, aatV, flat, setL, List.getElem?_cons_zero, List.getElem?_cons_succ, List.set_cons_zero, List.set_cons_succ, List.length_cons, List.length_nil, List.replicate, List.cons_append, List.nil_append, Nat.reduceAdd, Nat.reduceSub, Nat.reduceLT, Nat.reduceEqDiff, Option.bind_eq_bind, Option.bind_some, Option.map_some, decide_true, decide_false, ↓reduceIte, bne_self_eq_false, Bool.bne_true, Bool.bne_false, Bool.not_true, Bool.not_false, Bool.false_eq_true]) ?_
    simp only [exec, evalX, evalXs, evalT, locV, mk, Stem.get, Stem.put, truthV, cmpV, retOf, binV, insetV, inlV, negV, minV, lenV, aatV, flat, setL, List.getElem?_cons_zero, List.getElem?_cons_succ, List.set_cons_zero, List.set_cons_succ, List.length_cons, List.length_nil, List.replicate, List.cons_append, List.nil_append, Nat.reduceAdd, Nat.reduceSub, Nat.reduceLT, Nat.reduceEqDiff, Option.bind_eq_bind, Option.bind_some, Option.map_some, decide_true, decide_false, ↓reduceIte, bne_self_eq_false, Bool.bne_true, Bool.bne_false, Bool.not_true, Bool.not_false, Bool.false_eq_true, h0, h1, hx, h3, eq_self]
  · have h3 : decide ([a] = [u]) = false := by simp [h2]
    by_cases h4 : a = v
    · have h5 : decide ([a] = [v]) = true := by simp [h4]
      rw [if_pos (Or.inr h4)]
      refine whl_brk Φ (by simp only [exec, evalX, evalXs, evalT, locV, mk, Stem.get, Stem.put, truthV, cmpV, retOf, binV, insetV, inlV, negV, minV, lenV, aatV, flat, setL, List.getElem?_cons_zero, List.getElem?_cons_succ, List.set_cons_zero, List.set_cons_succ, List.length_cons, List.length_nil, List.replicate, List.cons_append, List.nil_append, Nat.reduceAdd, Nat.reduceSub, Nat.reduceLT, Nat.reduceEqDiff, Option.bind_eq_bind, Option.bind_some, Option.map_some, decide_true, decide_false, ↓reduceIte, bne_self_eq_false, Bool.bne_true, Bool.bne_false, Bool.not_true, Bool.not_false, Bool.false_eq_true]) ?_
      simp only [exec, evalX, evalXs, evalT, locV, mk, Stem.get, Stem.put, truthV, cmpV, retOf, binV, insetV, inlV, negV, minV, lenV, aatV, flat, setL, List.getElem?_cons_zero, List.getElem?_cons_succ, List.set_cons_zero, List.set_cons_succ, List.length_cons, List.length_nil, List.replicate, List.cons_append, List.nil_append, Nat.reduceAdd, Nat.reduceSub, Nat.reduceLT, Nat.reduceEqDiff, Option.bind_eq_bind, Option.bind_some, Option.map_some, decide_true, decide_false, ↓reduceIte, bne_self_eq_false, Bool.bne_true, Bool.bne_false, Bool.not_true, Bool.not_false, Bool.false_eq_true, h0, h1, hx, h3, h5, eq_self]
    · have h5 : decide ([a] = [v]) = false := by simp [h4]
      rw [if_neg (by simp [h2, h4])]
      refine whl_ret Φ (by simp only [exec, evalX, evalXs, evalT, locV, mk, Stem.get, Stem.put, truthV, cmpV, retOf, binV, insetV, inlV, negV, minV, lenV, aatV, flat, setL, List.getElem?_cons_zero, List.getElem?_cons_succ, List.set_cons_zero, List.set_cons_succ, List.length_cons, List.length_nil, List.replicate, List.cons_append, List.nil_append, Nat.reduceAdd, Nat.reduceSub, Nat.reduceLT, Nat.reduceEqDiff, Option.bind_eq_bind, Option.bind_some, Option.map_some, decide_true, decide_false, ↓reduceIte, bne_self_eq_false, Bool.bne_true, Bool.bne_false, Bool.not_true, Bool.not_false, Bool.false_eq_true]) ?_
      simp only [exec, evalX, evalXs, evalT, locV, mk, Stem.get, Stem.put, truthV, cmpV, retOf, binV, insetV, inlV, negV, minV, lenV, aatV, flat, setL, List.getElem?_cons_zero, List.getElem?_cons_succ, List.set_cons_zero, List.set_cons_succ, List.length_cons, List.length_nil, List.replicate, List.cons_append, List.nil_append, Nat.reduceAdd, Nat.reduceSub, Nat.reduceLT, Nat.reduceEqDiff, Option.bind_eq_bind, Option.bind_some, Option.map_some, decide_true, decide_false, ↓reduceIte, bne_self_eq_false, Bool.bne_true, Bool.bne_false, Bool.not_true, Bool.not_false, Bool.false_eq_true, h0, h1, hx, h3, h5, eq_self]
theorem call20 (d : Nat) (a : V) (σ : Sta) : callN FNS (d+1) 20 [a] σ = retOf (exec (callN FNS d) b20 [a] σ) := rfl
theorem b20_eq : b20 = (.seq (.setf 0 .ket (.fld 0 .c)) (.seq (WY 121 89) (.seq (.setf 0 .bra (.fld 0 .c)) (.seq (.ife (.not (.x (.meth 5 0 (.cons (.glb 0) .nil)))) (.seq (.ret (.cst (.bool false))) .skip) .skip) (.seq (.augf 0 .c .sub (.cst (.int 1))) (.seq (.expr (.meth 8 0 (.cons (.cst (.str [105])) .nil))) (.seq (.ret (.cst (.bool true))) .skip))))))) := rfl
theorem step1c (d : Nat) (m : Tx) (bra ket p1 p2 : Int) (hm : m.length ≤ 100) : ∃ b c br ke, callN FNS (d+4) 20 [.slf] (mk m m.length m.length 0 bra ket p1 p2) = some (.bool b, mk ((A3 m).getD m) c ((A3 m).getD m).length 0 br ke p1 p2) := by
  have g0 : glbs[0]? = some (.set false) := rfl
  rcases last_or m with e | ⟨x, a, e⟩
  · have hA : A3 m = none := by rw [e]; rfl
    have hl : (m.length : Int) = 0 := by rw [e]; rfl
    rw [hA, hl]
    have w := wy_0 (callN FNS (d+3)) 121 89 [] m 0 bra 0 p1 p2
    simp only [mk] at w
    refine ⟨false, 0, bra, 0, ?_⟩
    rw [call20, b20_eq]
    simp only [exec, evalX, evalXs, evalT, locV, mk, Stem.get, Stem.put, truthV, cmpV, retOf, binV, insetV, inlV, negV, minV, lenV, aatV, flat, setL, List.getElem?_cons_zero, List.getElem?_cons_succ, List.set_cons_zero, List.set_cons_succ, List.length_cons, List.length_nil, List.replicate, List.cons_append, List.nil_append, Nat.reduceAdd, Nat.reduceSub, Nat.reduceLT, Nat.reduceEqDiff, Option.bind_eq_bind, Option.bind_some, Option.map_some, decide_true, decide_false, ↓reduceIte, bne_self_eq_false, Bool.bne_true, Bool.bne_false, Bool.not_true, Bool.not_false, Bool.false_eq_true, w, Option.getD_none, hl]
  · have hl : (m.length : Int) = (x.length : Int) + 1 := by rw [e]; simp
    have ht : m.take (m.length - 1) = x := by rw [e]; simp
    have w := wy_1 (callN FNS (d+3)) 121 89 [] m x [] a m.length bra m.length p1 p2 e
    rw [← hl] at w
    obtain ⟨c', k0, k1, k2⟩ := gogb (d+2) m x [a] m.length (x.length : Int) m.length p1 p2 e (by omega)
    have hA : A3 m = if (a = 121 ∨ a = 89) ∧ x.any isV = true then some (x ++ [105]) else none := by
      unfold A3
      rw [ht, e, sfx1, sfx1]
      by_cases h1 : a = 121
      · simp [h1]
      · by_cases h2 : a = 89
        · simp [h2]
        · have : ¬ 121 = a := fun h => h1 h.symm
          have : ¬ 89 = a := fun h => h2 h.symm
          simp [*]
    by_cases h1 : a = 121 ∨ a = 89
    · rw [if_pos h1] at w
      simp only [mk] at w k2
      cases h2 : x.any isV
      · rw [h2] at k2
        rw [hA, if_neg (by simp [h2])]
        refine ⟨false, c', (x.length : Int), m.length, ?_⟩
        rw [call20, b20_eq]
        simp only [exec, evalX, evalXs, evalT, locV, mk, Stem.get, Stem.put, truthV, cmpV, retOf, binV, insetV, inlV, negV, minV, lenV, aatV, flat, setL, List.getElem?_cons_zero, List.getElem?_cons_succ, List.set_cons_zero, List.set_cons_succ, List.length_cons, List.length_nil, List.replicate, List.cons_append, List.nil_append, Nat.reduceAdd, Nat.reduceSub, Nat.reduceLT, Nat.reduceEqDiff, Option.bind_eq_bind, Option.bind_some, Option.map_some, decide_true, decide_false, ↓reduceIte, bne_self_eq_false, Bool.bne_true, Bool.bne_false, Bool.not_true, Bool.not_false, Bool.false_eq_true, w, g0, k2, Option.getD_none]
      · rw [h2] at k2
        rw [hA, if_pos ⟨h1, h2⟩]
        have hs := slice_from (d+1) m [105] (c' - 1) 0 p1 p2 x.length m.length (by omega) (by simp) (by omega) (by omega)
        rw [put_end, show m.take x.length = x by rw [e]; simp] at hs
        simp only [mk] at hs
        refine ⟨true, rc (c' - 1) (x.length : Int) m.length 1, (x.length : Int), (x.length : Int) + 1, ?_⟩
        rw [call20, b20_eq]
        simp only [exec, evalX, evalXs, evalT, locV, mk, Stem.get, Stem.put, truthV, cmpV, retOf, binV, insetV, inlV, negV, minV, lenV, aatV, flat, setL, List.getElem?_cons_zero, List.getElem?_cons_succ, List.set_cons_zero, List.set_cons_succ, List.length_cons, List.length_nil, List.replicate, List.cons_append, List.nil_append, Nat.reduceAdd, Nat.reduceSub, Nat.reduceLT, Nat.reduceEqDiff, Option.bind_eq_bind, Option.bind_some, Option.map_some, decide_true, decide_false, ↓reduceIte, bne_self_eq_false, Bool.bne_true, Bool.bne_false, Bool.not_true, Bool.not_false, Bool.false_eq_true, w, g0, k2, hs, Option.getD_some]
        rfl
    · rw [if_neg h1] at w
      simp only [mk] at w
      rw [hA, if_neg (fun h => h1 h.1)]
      refine ⟨false, m.length, bra, m.length, ?_⟩
      rw [call20, b20_eq]
      simp only [exec, evalX, evalXs, evalT, locV, mk, Stem.get, Stem.put, truthV, cmpV, retOf, binV, insetV, inlV, negV, minV, lenV, aatV, flat, setL, List.getElem?_cons_zero, List.getElem?_cons_succ, List.set_cons_zero, List.set_cons_succ, List.length_cons, List.length_nil, List.replicate, List.cons_append, List.nil_append, Nat.reduceAdd, Nat.reduceSub, Nat.reduceLT, Nat.reduceEqDiff, Option.bind_eq_bind, Option.bind_some, Option.map_some, decide_true, decide_false, ↓reduceIte, bne_self_eq_false, Bool.bne_true, Bool.bne_false, Bool.not_true, Bool.not_false, Bool.false_eq_true, w, Option.getD_none]
/-- what the tables' answers say, row by row -/
def strOk (v : Option V) (s : Tx) : Bool := match v with
  | some (.str u) => decide (u = s)
  | _ => false
theorem strOk_eq {v : Option V} {s : Tx} (h : strOk v s = true) : v = some (.str s) := by
  unfold strOk at h
  split at h
  · rw [of_decide_eq_true h]
  · cases h
theorem T3_res : ∀ k, k < 20 → ¬ res T3 k = 0 ∧ strOk (idxV vS3 (.int (res T3 k - 1))) (rep3 k) = true ∧ (rep3 k).length ≤ 10 := by decide +kernel
theorem T4_res : ∀ k, k < 7 → ¬ res T4 k = 0 ∧ strOk (idxV vS4 (.int (res T4 k - 1))) (rep4 k) = true ∧ (rep4 k).length ≤ 10 := by decide +kernel
theorem T5_res : ∀ k, k < 19 → ¬ res T5 k = 0 ∧ (res T5 k = 1 ↔ k ≠ 11) := by decide +kernel
theorem call21 (d : Nat) (a : V) (σ : Sta) : callN FNS (d+1) 21 [a] σ = retOf (exec (callN FNS d) b21 [a, .undef] σ) := rfl
theorem call22 (d : Nat) (a : V) (σ : Sta) : callN FNS (d+1) 22 [a] σ = retOf (exec (callN FNS d) b22 [a, .undef] σ) := rfl
theorem call23 (d : Nat) (a : V) (σ : Sta) : callN FNS (d+1) 23 [a] σ = retOf (exec (callN FNS d) b23 [a, .undef] σ) := rfl
theorem call24 (d : Nat) (a : V) (σ : Sta) : callN FNS (d+1) 24 [a] σ = retOf (exec (callN FNS d) b24 [a, .undef] σ) := rfl
theorem call25 (d : Nat) (a : V) (σ : Sta) : callN FNS (d+1) 25 [a] σ = retOf (exec (callN FNS d) b25 [a] σ) := rfl
theorem best_facts {rows : List Row} (hok : rowsOk rows = true) {m : Tx} {k : Nat} (h : best rows m.reverse = some k) : k < rows.length ∧ m = m.take (m.length - (rs rows k).length) ++ (rs rows k).reverse ∧ (rs rows k).length ≤ m.length := by
  have := best_is hok m.reverse
  rw [h] at this
  exact ⟨this.1, pre_split this.2.1⟩
theorem step2 (d : Nat) (m : Tx) (bra ket p2 : Int) (p1 : Nat) (hm : m.length ≤ 100) : ∃ b c br ke, callN FNS (d+4) 21 [.slf] (mk m m.length m.length 0 bra ket p1 p2) = some (.bool b, mk ((A4 p1 m).getD m) c ((A4 p1 m).getD m).length 0 br ke p1 p2) := by
  have hf := find_b (d+2) T3 T3_ok T3_nd m m.length bra m.length p1 p2
  have g5 : glbs[5]? = some (tabV T3) := rfl
  have g9 : glbs[9]? = some vS3 := rfl
  simp only [mk] at hf
  unfold A4
  cases hb : best T3 m.reverse with
  | none =>
    rw [hb] at hf
    refine ⟨false, m.length, bra, m.length, ?_⟩
    simp only [exec, evalX, evalXs, evalT, locV, mk, Stem.get, Stem.put, truthV, cmpV, retOf, binV, insetV, inlV, negV, minV, lenV, aatV, flat, setL, List.getElem?_cons_zero, List.getElem?_cons_succ, List.set_cons_zero, List.set_cons_succ, List.length_cons, List.length_nil, List.replicate, List.cons_append, List.nil_append, Nat.reduceAdd, Nat.reduceSub, Nat.reduceLT, Nat.reduceEqDiff, Option.bind_eq_bind, Option.bind_some, Option.map_some, decide_true, decide_false, ↓reduceIte, bne_self_eq_false, Bool.bne_true, Bool.bne_false, Bool.not_true, Bool.not_false, Bool.false_eq_true, call21, b21, g5, hf, Option.getD_none]
  | some k =>
    rw [hb] at hf
    obtain ⟨f1, f2, f3⟩ := best_facts T3_ok hb
    obtain ⟨r1, r2, r3⟩ := T3_res k f1
    have r2 := strOk_eq r2
    have hR := r_R1 (d+2) m ((m.length - (rs T3 k).length : Nat) : Int) m.length 0 ((m.length - (rs T3 k).length : Nat) : Int) m.length p1 p2
    simp only [mk] at hR
    by_cases h1 : p1 + (rs T3 k).length ≤ m.length
    · have h2 : (p1 : Int) ≤ ((m.length - (rs T3 k).length : Nat) : Int) := by omega
      have hs := slice_from (d+1) m (rep3 k) ((m.length - (rs T3 k).length : Nat) : Int) 0 p1 p2 (m.length - (rs T3 k).length) m.length (by omega) (by omega) (by omega) (by omega)
      rw [put_end] at hs
      simp only [mk] at hs
      simp only [if_pos h1]
      refine ⟨true, rc ((m.length - (rs T3 k).length : Nat) : Int) ((m.length - (rs T3 k).length : Nat) : Int) m.length (rep3 k).length, ((m.length - (rs T3 k).length : Nat) : Int), ((m.length - (rs T3 k).length : Nat) : Int) + (rep3 k).length, ?_⟩
      simp only [exec, evalX, evalXs, evalT, locV, mk, Stem.get, Stem.put, truthV, cmpV, retOf, binV, insetV, inlV, negV, minV, lenV, aatV, flat, setL, List.getElem?_cons_zero, List.getElem?_cons_succ, List.set_cons_zero, List.set_cons_succ, List.length_cons, List.length_nil, List.replicate, List.cons_append, List.nil_append, Nat.reduceAdd, Nat.reduceSub, Nat.reduceLT, Nat.reduceEqDiff, Option.bind_eq_bind, Option.bind_some, Option.map_some, decide_true, decide_false, ↓reduceIte, bne_self_eq_false, Bool.bne_true, Bool.bne_false, Bool.not_true, Bool.not_false, Bool.false_eq_true, call21, b21, g5, g9, hf, r1, hR, h2, r2, hs, Option.getD_some]
    · have h2 : ¬ (p1 : Int) ≤ ((m.length - (rs T3 k).length : Nat) : Int) := by omega
      simp only [if_neg h1]
      refine ⟨false, ((m.length - (rs T3 k).length : Nat) : Int), ((m.length - (rs T3 k).length : Nat) : Int), m.length, ?_⟩
      simp only [exec, evalX, evalXs, evalT, locV, mk, Stem.get, Stem.put, truthV, cmpV, retOf, binV, insetV, inlV, negV, minV, lenV, aatV, flat, setL, List.getElem?_cons_zero, List.getElem?_cons_succ, List.set_cons_zero, List.set_cons_succ, List.length_cons, List.length_nil, List.replicate, List.cons_append, List.nil_append, Nat.reduceAdd, Nat.reduceSub, Nat.reduceLT, Nat.reduceEqDiff, Option.bind_eq_bind, Option.bind_some, Option.map_some, decide_true, decide_false, ↓reduceIte, bne_self_eq_false, Bool.bne_true, Bool.bne_false, Bool.not_true, Bool.not_false, Bool.false_eq_true, call21, b21, g5, g9, hf, r1, hR, h2, Option.getD_none]
theorem step3 (d : Nat) (m : Tx) (bra ket p2 : Int) (p1 : Nat) (hm : m.length ≤ 100) : ∃ b c br ke, callN FNS (d+4) 22 [.slf] (mk m m.length m.length 0 bra ket p1 p2) = some (.bool b, mk ((A5 p1 m).getD m) c ((A5 p1 m).getD m).length 0 br ke p1 p2) := by
  have hf := find_b (d+2) T4 T4_ok T4_nd m m.length bra m.length p1 p2
  have g5 : glbs[6]? = some (tabV T4) := rfl
  have g9 : glbs[10]? = some vS4 := rfl
  simp only [mk] at hf
  unfold A5
  cases hb : best T4 m.reverse with
  | none =>
    rw [hb] at hf
    refine ⟨false, m.length, bra, m.length, ?_⟩
    simp only [exec, evalX, evalXs, evalT, locV, mk, Stem.get, Stem.put, truthV, cmpV, retOf, binV, insetV, inlV, negV, minV, lenV, aatV, flat, setL, List.getElem?_cons_zero, List.getElem?_cons_succ, List.set_cons_zero, List.set_cons_succ, List.length_cons, List.length_nil, List.replicate, List.cons_append, List.nil_append, Nat.reduceAdd, Nat.reduceSub, Nat.reduceLT, Nat.reduceEqDiff, Option.bind_eq_bind, Option.bind_some, Option.map_some, decide_true, decide_false, ↓reduceIte, bne_self_eq_false, Bool.bne_true, Bool.bne_false, Bool.not_true, Bool.not_false, Bool.false_eq_true, call22, b22, g5, hf, Option.getD_none]
  | some k =>
    rw [hb] at hf
    obtain ⟨f1, f2, f3⟩ := best_facts T4_ok hb
    obtain ⟨r1, r2, r3⟩ := T4_res k f1
    have r2 := strOk_eq r2
    have hR := r_R1 (d+2) m ((m.length - (rs T4 k).length : Nat) : Int) m.length 0 ((m.length - (rs T4 k).length : Nat) : Int) m.length p1 p2
    simp only [mk] at hR
    by_cases h1 : p1 + (rs T4 k).length ≤ m.length
    · have h2 : (p1 : Int) ≤ ((m.length - (rs T4 k).length : Nat) : Int) := by omega
      have hs := slice_from (d+1) m (rep4 k) ((m.length - (rs T4 k).length : Nat) : Int) 0 p1 p2 (m.length - (rs T4 k).length) m.length (by omega) (by omega) (by omega) (by omega)
      rw [put_end] at hs
      simp only [mk] at hs
      simp only [if_pos h1]
      refine ⟨true, rc ((m.length - (rs T4 k).length : Nat) : Int) ((m.length - (rs T4 k).length : Nat) : Int) m.length (rep4 k).length, ((m.length - (rs T4 k).length : Nat) : Int), ((m.length - (rs T4 k).length : Nat) : Int) + (rep4 k).length, ?_⟩
      simp only [exec, evalX, evalXs, evalT, locV, mk, Stem.get, Stem.put, truthV, cmpV, retOf, binV, insetV, inlV, negV, minV, lenV, aatV, flat, setL, List.getElem?_cons_zero, List.getElem?_cons_succ, List.set_cons_zero, List.set_cons_succ, List.length_cons, List.length_nil, List.replicate, List.cons_append, List.nil_append, Nat.reduceAdd, Nat.reduceSub, Nat.reduceLT, Nat.reduceEqDiff, Option.bind_eq_bind, Option.bind_some, Option.map_some, decide_true, decide_false, ↓reduceIte, bne_self_eq_false, Bool.bne_true, Bool.bne_false, Bool.not_true, Bool.not_false, Bool.false_eq_true, call22, b22, g5, g9, hf, r1, hR, h2, r2, hs, Option.getD_some]
    · have h2 : ¬ (p1 : Int) ≤ ((m.length - (rs T4 k).length : Nat) : Int) := by omega
      simp only [if_neg h1]
      refine ⟨false, ((m.length - (rs T4 k).length : Nat) : Int), ((m.length - (rs T4 k).length : Nat) : Int), m.length, ?_⟩
      simp only [exec, evalX, evalXs, evalT, locV, mk, Stem.get, Stem.put, truthV, cmpV, retOf, binV, insetV, inlV, negV, minV, lenV, aatV, flat, setL, List.getElem?_cons_zero, List.getElem?_cons_succ, List.set_cons_zero, List.set_cons_succ, List.length_cons, List.length_nil, List.replicate, List.cons_append, List.nil_append, Nat.reduceAdd, Nat.reduceSub, Nat.reduceLT, Nat.reduceEqDiff, Option.bind_eq_bind, Option.bind_some, Option.map_some, decide_true, decide_false, ↓reduceIte, bne_self_eq_false, Bool.bne_true, Bool.bne_false, Bool.not_true, Bool.not_false, Bool.false_eq_true, call22, b22, g5, g9, hf, r1, hR, h2, Option.getD_none]
end Mine.C
end

section
set_option Elab.async false
set_option maxRecDepth 100000
set_option linter.unusedVariables false
set_option linter.unusedSimpArgs false
namespace Mine.C
theorem b23_eq : b23 = (.seq (.setf 0 .ket (.fld 0 .c)) (.seq (.asg 1 (.meth 6 0 (.cons (.glb 7) .nil))) (.seq (.ife (.x (.cmp .eq (.loc 1) (.cst (.int 0)))) (.seq (.ret (.cst (.bool false))) .skip) .skip) (.seq (.setf 0 .bra (.fld 0 .c)) (.seq (.ife (.not (.x (.meth 17 0 .nil))) (.seq (.ret (.cst (.bool false))) .skip) .skip) (.seq (.ife (.x (.cmp .eq (.loc 1) (.cst (.int 1)))) (.seq (.expr (.meth 9 0 .nil)) .skip) (.seq (WY 115 116) (.seq (.expr (.meth 9 0 .nil)) .skip))) (.seq (.ret (.cst (.bool true))) .skip))))))) := rfl
theorem step4 (d : Nat) (m : Tx) (bra ket p1 : Int) (p2 : Nat) (hm : m.length ≤ 100) : ∃ b c br ke, callN FNS (d+4) 23 [.slf] (mk m m.length m.length 0 bra ket p1 p2) = some (.bool b, mk ((A6 p2 m).getD m) c ((A6 p2 m).getD m).length 0 br ke p1 p2) := by
  have hf := find_b (d+2) T5 T5_ok T5_nd m m.length bra m.length p1 p2
  have g7 : glbs[7]? = some (tabV T5) := rfl
  simp only [mk] at hf
  unfold A6
  cases hb : best T5 m.reverse with
  | none =>
    rw [hb] at hf
    refine ⟨false, m.length, bra, m.length, ?_⟩
    rw [call23, b23_eq]
    simp only [exec, evalX, evalXs, evalT, locV, mk, Stem.get, Stem.put, truthV, cmpV, retOf, binV, insetV, inlV, negV, minV, lenV, aatV, flat, setL, List.getElem?_cons_zero, List.getElem?_cons_succ, List.set_cons_zero, List.set_cons_succ, List.length_cons, List.length_nil, List.replicate, List.cons_append, List.nil_append, Nat.reduceAdd, Nat.reduceSub, Nat.reduceLT, Nat.reduceEqDiff, Option.bind_eq_bind, Option.bind_some, Option.map_some, decide_true, decide_false, ↓reduceIte, bne_self_eq_false, Bool.bne_true, Bool.bne_false, Bool.not_true, Bool.not_false, Bool.false_eq_true, g7, hf, Option.getD_none]
  | some k =>
    rw [hb] at hf
    dsimp only at hf
    obtain ⟨f1, f2, f3⟩ := best_facts T5_ok hb
    obtain ⟨r1, r2⟩ := T5_res k f1
    have hR := r_R2 (d+2) m ((m.length - (rs T5 k).length : Nat) : Int) m.length 0 ((m.length - (rs T5 k).length : Nat) : Int) m.length p1 p2
    simp only [mk] at hR
    by_cases h1 : p2 + (rs T5 k).length ≤ m.length
    · have h2 : (p2 : Int) ≤ ((m.length - (rs T5 k).length : Nat) : Int) := by omega
      simp only [if_pos h1]
      by_cases h3 : k = 11
      · have r3 : ¬ res T5 k = 1 := fun h => (r2.1 h) h3
        have l3 : (rs T5 k).length = 3 := by rw [h3]; rfl
        rw [l3] at hf hR f2 f3 h1 h2
        simp only [l3]
        have hxl : (m.take (m.length - 3)).length = m.length - 3 := by rw [List.length_take]; omega
        generalize hx : m.take (m.length - 3) = x at *
        rcases last_or x with e | ⟨y, a, e⟩
        · have hc : ((m.length - 3 : Nat) : Int) = 0 := by rw [← hxl, e]; rfl
          have w := wy_0 (callN FNS (d+3)) 115 116 [.int (res T5 k)] m m.length 0 m.length p1 p2
          rw [hc] at hf hR h2
          simp only [mk] at w
          have hA : ¬ (k ≠ 11 ∨ sfx [115] x = true ∨ sfx [116] x = true) := by
            rw [e]; intro h; rcases h with h | h | h
            · exact h h3
            · cases h
            · cases h
          simp only [if_neg hA]
          refine ⟨false, 0, 0, m.length, ?_⟩
          rw [call23, b23_eq]
          simp only [exec, evalX, evalXs, evalT, locV, mk, Stem.get, Stem.put, truthV, cmpV, retOf, binV, insetV, inlV, negV, minV, lenV, aatV, flat, setL, List.getElem?_cons_zero, List.getElem?_cons_succ, List.set_cons_zero, List.set_cons_succ, List.length_cons, List.length_nil, List.replicate, List.cons_append, List.nil_append, Nat.reduceAdd, Nat.reduceSub, Nat.reduceLT, Nat.reduceEqDiff, Option.bind_eq_bind, Option.bind_some, Option.map_some, decide_true, decide_false, ↓reduceIte, bne_self_eq_false, Bool.bne_true, Bool.bne_false, Bool.not_true, Bool.not_false, Bool.false_eq_true, g7, hf, r1, hR, h2, r3, w, Option.getD_none]
        · have hc : ((m.length - 3 : Nat) : Int) = (y.length : Int) + 1 := by rw [← hxl, e]; simp
          have w := wy_1 (callN FNS (d+3)) 115 116 [.int (res T5 k)] m y (rs T5 k).reverse a m.length ((y.length : Int) + 1) m.length p1 p2 (by rw [f2, e]; simp)
          have hA : (k ≠ 11 ∨ sfx [115] x = true ∨ sfx [116] x = true) ↔ (a = 115 ∨ a = 116) := by
            rw [e, sfx1, sfx1]
            constructor
            · intro h
              rcases h with h | h | h
              · exact absurd h3 h
              · exact Or.inl (beq_iff_eq.1 h).symm
              · exact Or.inr (beq_iff_eq.1 h).symm
            · intro h
              rcases h with h | h
              · exact Or.inr (Or.inl (beq_iff_eq.2 h.symm))
              · exact Or.inr (Or.inr (beq_iff_eq.2 h.symm))
          by_cases h4 : a = 115 ∨ a = 116
          · simp only [if_pos (hA.2 h4)]
            rw [if_pos h4] at w
            have hs := slice_del d m (y.length : Int) 0 p1 p2 (m.length - 3) m.length (by omega) (by omega) (by omega)
            rw [put_end, List.append_nil, hx] at hs
            rw [hc] at hf hR h2 hs
            simp only [mk] at w hs
            refine ⟨true, rc (y.length : Int) ((y.length : Int) + 1) m.length 0, (y.length : Int) + 1, (y.length : Int) + 1, ?_⟩
            rw [call23, b23_eq]
            simp only [exec, evalX, evalXs, evalT, locV, mk, Stem.get, Stem.put, truthV, cmpV, retOf, binV, insetV, inlV, negV, minV, lenV, aatV, flat, setL, List.getElem?_cons_zero, List.getElem?_cons_succ, List.set_cons_zero, List.set_cons_succ, List.length_cons, List.length_nil, List.replicate, List.cons_append, List.nil_append, Nat.reduceAdd, Nat.reduceSub, Nat.reduceLT, Nat.reduceEqDiff, Option.bind_eq_bind, Option.bind_some, Option.map_some, decide_true, decide_false, ↓reduceIte, bne_self_eq_false, Bool.bne_true, Bool.bne_false, Bool.not_true, Bool.not_false, Bool.false_eq_true, g7, hf, r1, hR, h2, r3, w, hs, Option.getD_some]
          · simp only [if_neg (fun h => h4 (hA.1 h))]
            rw [if_neg h4] at w
            rw [hc] at hf hR h2
            simp only [mk] at w
            refine ⟨false, (y.length : Int) + 1, (y.length : Int) + 1, m.length, ?_⟩
            rw [call23, b23_eq]
            simp only [exec, evalX, evalXs, evalT, locV, mk, Stem.get, Stem.put, truthV, cmpV, retOf, binV, insetV, inlV, negV, minV, lenV, aatV, flat, setL, List.getElem?_cons_zero, List.getElem?_cons_succ, List.set_cons_zero, List.set_cons_succ, List.length_cons, List.length_nil, List.replicate, List.cons_append, List.nil_append, Nat.reduceAdd, Nat.reduceSub, Nat.reduceLT, Nat.reduceEqDiff, Option.bind_eq_bind, Option.bind_some, Option.map_some, decide_true, decide_false, ↓reduceIte, bne_self_eq_false, Bool.bne_true, Bool.bne_false, Bool.not_true, Bool.not_false, Bool.false_eq_true, g7, hf, r1, hR, h2, r3, w, Option.getD_none]
      · have r3 : res T5 k = 1 := r2.2 h3
        rw [r3] at hf
        simp only [if_pos (Or.inl h3 : k ≠ 11 ∨ sfx [115] (m.take (m.length - (rs T5 k).length)) = true ∨ sfx [116] (m.take (m.length - (rs T5 k).length)) = true)]
        have hs := slice_del d m ((m.length - (rs T5 k).length : Nat) : Int) 0 p1 p2 (m.length - (rs T5 k).length) m.length (by omega) (by omega) (by omega)
        rw [put_end, List.append_nil] at hs
        simp only [mk] at hs
        refine ⟨true, rc ((m.length - (rs T5 k).length : Nat) : Int) ((m.length - (rs T5 k).length : Nat) : Int) m.length 0, ((m.length - (rs T5 k).length : Nat) : Int), ((m.length - (rs T5 k).length : Nat) : Int), ?_⟩
        rw [call23, b23_eq]
        simp only [exec, evalX, evalXs, evalT, locV, mk, Stem.get, Stem.put, truthV, cmpV, retOf, binV, insetV, inlV, negV, minV, lenV, aatV, flat, setL, List.getElem?_cons_zero, List.getElem?_cons_succ, List.set_cons_zero, List.set_cons_succ, List.length_cons, List.length_nil, List.replicate, List.cons_append, List.nil_append, Nat.reduceAdd, Nat.reduceSub, Nat.reduceLT, Nat.reduceEqDiff, Option.bind_eq_bind, Option.bind_some, Option.map_some, decide_true, decide_false, ↓reduceIte, bne_self_eq_false, Bool.bne_true, Bool.bne_false, Bool.not_true, Bool.not_false, Bool.false_eq_true, g7, hf, hR, h2, hs, Option.getD_some, Int.reduceEq]
    · have h2 : ¬ (p2 : Int) ≤ ((m.length - (rs T5 k).length : Nat) : Int) := by omega
      simp only [if_neg h1]
      refine ⟨false, ((m.length - (rs T5 k).length : Nat) : Int), ((m.length - (rs T5 k).length : Nat) : Int), m.length, ?_⟩
      rw [call23, b23_eq]
      simp only [exec, evalX, evalXs, evalT, locV, mk, Stem.get, Stem.put, truthV, cmpV, retOf, binV, insetV, inlV, negV, minV, lenV, aatV, flat, setL, List.getElem?_cons_zero, List.getElem?_cons_succ, List.set_cons_zero, List.set_cons_succ, List.length_cons, List.length_nil, List.replicate, List.cons_append, List.nil_append, Nat.reduceAdd, Nat.reduceSub, Nat.reduceLT, Nat.reduceEqDiff, Option.bind_eq_bind, Option.bind_some, Option.map_some, decide_true, decide_false, ↓reduceIte, bne_self_eq_false, Bool.bne_true, Bool.bne_false, Bool.not_true, Bool.not_false, Bool.false_eq_true, g7, hf, r1, hR, h2, Option.getD_none]
def W5 : S := .whl (.x (.cst (.bool true))) (.seq (.tryx 0 (.seq (.ife (.not (.x (.meth 17 0 .nil))) (.seq (.raise 0) .skip) .skip) (.seq .brk .skip))) (.seq (.ife (.not (.x (.meth 16 0 .nil))) (.seq (.ret (.cst (.bool false))) .skip) .skip) (.seq (.asg 1 (.bin .sub (.fld 0 .l) (.fld 0 .c))) (.seq (.tryx 0 (.seq (.ife (.not (.x (.meth 15 0 .nil))) (.seq (.raise 0) .skip) .skip) (.seq (.ret (.cst (.bool false))) .skip))) (.seq (.setf 0 .c (.bin .sub (.fld 0 .l) (.loc 1))) (.seq .brk .skip))))))
theorem b24_eq : b24 = (.seq (.setf 0 .ket (.fld 0 .c)) (.seq (.ife (.or (.x (.cmp .le (.fld 0 .c) (.fld 0 .lb))) (.or (.x (.cmp .ne (.idx (.fld 0 .cur) (.bin .sub (.fld 0 .c) (.cst (.int 1)))) (.cst (.str [101])))) .ff)) (.seq (.ret (.cst (.bool false))) .skip) .skip) (.seq (.augf 0 .c .sub (.cst (.int 1))) (.seq (.setf 0 .bra (.fld 0 .c)) (.seq W5 (.seq (.expr (.meth 9 0 .nil)) (.seq (.ret (.cst (.bool true))) .skip))))))) := rfl
theorem w5_x (d : Nat) (m x R : Tx) (e : m = x ++ R) (l bra ket : Int) (p1 p2 : Nat) :
    (if p2 ≤ x.length ∨ (p1 ≤ x.length ∧ shR x.reverse = false) then ∃ v, exec (callN FNS (d+3)) W5 [.slf, .undef] (mk m (x.length : Int) l 0 bra ket p1 p2) = some (.next, [.slf, v], mk m (x.length : Int) l 0 bra ket p1 p2)
     else ∃ v c', exec (callN FNS (d+3)) W5 [.slf, .undef] (mk m (x.length : Int) l 0 bra ket p1 p2) = some (.ret (.bool false), [.slf, v], mk m c' l 0 bra ket p1 p2)) := by
  have h2 := r_R2 (d+2) m (x.length : Int) l 0 bra ket p1 p2
  have h1 := r_R1 (d+2) m (x.length : Int) l 0 bra ket p1 p2
  obtain ⟨c', hs⟩ := r_shortv (d+1) m x.reverse R l bra ket p1 p2 (by simpa using e)
  rw [List.length_reverse] at hs
  simp only [mk] at h1 h2 hs
  have e1 : l - (l - (x.length : Int)) = (x.length : Int) := by omega
  by_cases k2 : p2 ≤ x.length
  · have k2' : (p2 : Int) ≤ (x.length : Int) := by omega
    rw [if_pos (Or.inl k2)]
    refine ⟨.undef, whl_brk _ (by simp only [exec, evalX, evalXs, evalT, locV, mk, Stem.get, Stem.put, truthV, cmpV, retOf, binV, insetV, inlV, negV, minV, lenV, aatV, flat, setL, List.getElem?_cons_zero, List.getElem?_cons_succ, List.set_cons_zero, List.set_cons_succ, List.length_cons, List.length_nil, List.replicate, List.cons_append, List.nil_append, Nat.reduceAdd, Nat.reduceSub, Nat.reduceLT, Nat.reduceEqDiff, Option.bind_eq_bind, Option.bind_some, Option.map_some, decide_true, decide_false, ↓reduceIte, bne_self_eq_false, Bool.bne_true, Bool.bne_false, Bool.not_true, Bool.not_false, Bool.false_eq_true]) ?_⟩
    simp only [exec, evalX, evalXs, evalT, locV, mk, Stem.get, Stem.put, truthV, cmpV, retOf, binV, insetV, inlV, negV, minV, lenV, aatV, flat, setL, List.getElem?_cons_zero, List.getElem?_cons_succ, List.set_cons_zero, List.set_cons_succ, List.length_cons, List.length_nil, List.replicate, List.cons_append, List.nil_append, Nat.reduceAdd, Nat.reduceSub, Nat.reduceLT, Nat.reduceEqDiff, Option.bind_eq_bind, Option.bind_some, Option.map_some, decide_true, decide_false, ↓reduceIte, bne_self_eq_false, Bool.bne_true, Bool.bne_false, Bool.not_true, Bool.not_false, Bool.false_eq_true, h2, k2']
  · have k2' : ¬ (p2 : Int) ≤ (x.length : Int) := by omega
    by_cases k1 : p1 ≤ x.length
    · have k1' : (p1 : Int) ≤ (x.length : Int) := by omega
      cases k3 : shR x.reverse
      · rw [if_pos (Or.inr ⟨k1, rfl⟩)]
        rw [k3] at hs
        refine ⟨.int (l - (x.length : Int)), whl_brk _ (by simp only [exec, evalX, evalXs, evalT, locV, mk, Stem.get, Stem.put, truthV, cmpV, retOf, binV, insetV, inlV, negV, minV, lenV, aatV, flat, setL, List.getElem?_cons_zero, List.getElem?_cons_succ, List.set_cons_zero, List.set_cons_succ, List.length_cons, List.length_nil, List.replicate, List.cons_append, List.nil_append, Nat.reduceAdd, Nat.reduceSub, Nat.reduceLT, Nat.reduceEqDiff, Option.bind_eq_bind, Option.bind_some, Option.map_some, decide_true, decide_false, ↓reduceIte, bne_self_eq_false, Bool.bne_true, Bool.bne_false, Bool.not_true, Bool.not_false, Bool.false_eq_true]) ?_⟩
        simp only [exec, evalX, evalXs, evalT, locV, mk, Stem.get, Stem.put, truthV, cmpV, retOf, binV, insetV, inlV, negV, minV, lenV, aatV, flat, setL, List.getElem?_cons_zero, List.getElem?_cons_succ, List.set_cons_zero, List.set_cons_succ, List.length_cons, List.length_nil, List.replicate, List.cons_append, List.nil_append, Nat.reduceAdd, Nat.reduceSub, Nat.reduceLT, Nat.reduceEqDiff, Option.bind_eq_bind, Option.bind_some, Option.map_some, decide_true, decide_false, ↓reduceIte, bne_self_eq_false, Bool.bne_true, Bool.bne_false, Bool.not_true, Bool.not_false, Bool.false_eq_true, h2, k2', h1, k1', hs, eq_self, e1]
      · rw [if_neg (by simp [k2])]
        rw [k3] at hs
        refine ⟨.int (l - (x.length : Int)), c', whl_ret _ (by simp only [exec, evalX, evalXs, evalT, locV, mk, Stem.get, Stem.put, truthV, cmpV, retOf, binV, insetV, inlV, negV, minV, lenV, aatV, flat, setL, List.getElem?_cons_zero, List.getElem?_cons_succ, List.set_cons_zero, List.set_cons_succ, List.length_cons, List.length_nil, List.replicate, List.cons_append, List.nil_append, Nat.reduceAdd, Nat.reduceSub, Nat.reduceLT, Nat.reduceEqDiff, Option.bind_eq_bind, Option.bind_some, Option.map_some, decide_true, decide_false, ↓reduceIte, bne_self_eq_false, Bool.bne_true, Bool.bne_false, Bool.not_true, Bool.not_false, Bool.false_eq_true]) ?_⟩
        simp only [exec, evalX, evalXs, evalT, locV, mk, Stem.get, Stem.put, truthV, cmpV, retOf, binV, insetV, inlV, negV, minV, lenV, aatV, flat, setL, List.getElem?_cons_zero, List.getElem?_cons_succ, List.set_cons_zero, List.set_cons_succ, List.length_cons, List.length_nil, List.replicate, List.cons_append, List.nil_append, Nat.reduceAdd, Nat.reduceSub, Nat.reduceLT, Nat.reduceEqDiff, Option.bind_eq_bind, Option.bind_some, Option.map_some, decide_true, decide_false, ↓reduceIte, bne_self_eq_false, Bool.bne_true, Bool.bne_false, Bool.not_true, Bool.not_false, Bool.false_eq_true, h2, k2', h1, k1', hs, eq_self]
    · have k1' : ¬ (p1 : Int) ≤ (x.length : Int) := by omega
      rw [if_neg (by simp [k2, k1])]
      refine ⟨.undef, (x.length : Int), whl_ret _ (by simp only [exec, evalX, evalXs, evalT, locV, mk, Stem.get, Stem.put, truthV, cmpV, retOf, binV, insetV, inlV, negV, minV, lenV, aatV, flat, setL, List.getElem?_cons_zero, List.getElem?_cons_succ, List.set_cons_zero, List.set_cons_succ, List.length_cons, List.length_nil, List.replicate, List.cons_append, List.nil_append, Nat.reduceAdd, Nat.reduceSub, Nat.reduceLT, Nat.reduceEqDiff, Option.bind_eq_bind, Option.bind_some, Option.map_some, decide_true, decide_false, ↓reduceIte, bne_self_eq_false, Bool.bne_true, Bool.bne_false, Bool.not_true, Bool.not_false, Bool.false_eq_true]) ?_⟩
      simp only [exec, evalX, evalXs, evalT, locV, mk, Stem.get, Stem.put, truthV, cmpV, retOf, binV, insetV, inlV, negV, minV, lenV, aatV, flat, setL, List.getElem?_cons_zero, List.getElem?_cons_succ, List.set_cons_zero, List.set_cons_succ, List.length_cons, List.length_nil, List.replicate, List.cons_append, List.nil_append, Nat.reduceAdd, Nat.reduceSub, Nat.reduceLT, Nat.reduceEqDiff, Option.bind_eq_bind, Option.bind_some, Option.map_some, decide_true, decide_false, ↓reduceIte, bne_self_eq_false, Bool.bne_true, Bool.bne_false, Bool.not_true, Bool.not_false, Bool.false_eq_true, h2, k2', h1, k1', eq_self]
theorem step5a (d : Nat) (m : Tx) (bra ket : Int) (p1 p2 : Nat) (hm : m.length ≤ 100) : ∃ b c br ke, callN FNS (d+4) 24 [.slf] (mk m m.length m.length 0 bra ket p1 p2) = some (.bool b, mk ((A7 p1 p2 m).getD m) c ((A7 p1 p2 m).getD m).length 0 br ke p1 p2) := by
  rcases last_or m with e | ⟨x, a, e⟩
  · have hA : A7 p1 p2 m = none := by rw [e]; rfl
    have hl : (m.length : Int) = 0 := by rw [e]; rfl
    have h0 : (0 : Int) ≤ 0 := by omega
    rw [hA]
    refine ⟨false, 0, bra, 0, ?_⟩
    rw [call24, b24_eq, hl]
    simp only [exec, evalX, evalXs, evalT, locV, mk, Stem.get, Stem.put, truthV, cmpV, retOf, binV, insetV, inlV, negV, minV, lenV, aatV, flat, setL, List.getElem?_cons_zero, List.getElem?_cons_succ, List.set_cons_zero, List.set_cons_succ, List.length_cons, List.length_nil, List.replicate, List.cons_append, List.nil_append, Nat.reduceAdd, Nat.reduceSub, Nat.reduceLT, Nat.reduceEqDiff, Option.bind_eq_bind, Option.bind_some, Option.map_some, decide_true, decide_false, ↓reduceIte, bne_self_eq_false, Bool.bne_true, Bool.bne_false, Bool.not_true, Bool.not_false, Bool.false_eq_true, h0, Option.getD_none, hl]
  · have hl : (m.length : Int) - 1 = (x.length : Int) := by rw [e]; simp
    have h0 : ¬ (m.length : Int) ≤ 0 := by omega
    have hml : m.length = x.length + 1 := by rw [e]; simp
    have ht : m.take (m.length - 1) = x := by rw [e]; simp
    have hx : idxV (.str m) (.int (x.length : Int)) = some (.str [a]) := by rw [e]; exact idx_last x a
    have hsf : sfx [101] m = (101 == a) := by rw [e, sfx1]
    by_cases h1 : a = 101
    · have h2 : decide ([a] = [101]) = true := by simp [h1]
      have hA : A7 p1 p2 m = if p2 ≤ x.length ∨ (p1 ≤ x.length ∧ shR x.reverse = false) then some x else none := by
        unfold A7
        rw [hsf, h1, if_pos (by rfl), ht, hml]
        simp only [Nat.add_le_add_iff_right]
      have w := w5_x d m x [a] e m.length (x.length : Int) m.length p1 p2
      rw [hA]
      split at w
      · rename_i hif
        obtain ⟨v, w⟩ := w
        rw [if_pos hif]
        have hs := slice_del d m (x.length : Int) 0 p1 p2 x.length m.length (by omega) (by omega) (by omega)
        rw [put_end, List.append_nil, show m.take x.length = x by rw [e]; simp] at hs
        simp only [mk] at w hs
        refine ⟨true, rc (x.length : Int) (x.length : Int) m.length 0, (x.length : Int), (x.length : Int), ?_⟩
        rw [call24, b24_eq]
        simp only [exec, evalX, evalXs, evalT, locV, mk, Stem.get, Stem.put, truthV, cmpV, retOf, binV, insetV, inlV, negV, minV, lenV, aatV, flat, setL, List.getElem?_cons_zero, List.getElem?_cons_succ, List.set_cons_zero, List.set_cons_succ, List.length_cons, List.length_nil, List.replicate, List.cons_append, List.nil_append, Nat.reduceAdd, Nat.reduceSub, Nat.reduceLT, Nat.reduceEqDiff, Option.bind_eq_bind, Option.bind_some, Option.map_some, decide_true, decide_false, ↓reduceIte, bne_self_eq_false, Bool.bne_true, Bool.bne_false, Bool.not_true, Bool.not_false, Bool.false_eq_true, h0, hl, hx, h2, w, hs, Option.getD_some]
      · rename_i hif
        obtain ⟨v, c', w⟩ := w
        rw [if_neg hif]
        simp only [mk] at w
        refine ⟨false, c', (x.length : Int), m.length, ?_⟩
        rw [call24, b24_eq]
        simp only [exec, evalX, evalXs, evalT, locV, mk, Stem.get, Stem.put, truthV, cmpV, retOf, binV, insetV, inlV, negV, minV, lenV, aatV, flat, setL, List.getElem?_cons_zero, List.getElem?_cons_succ, List.set_cons_zero, List.set_cons_succ, List.length_cons, List.length_nil, List.replicate, List.cons_append, List.nil_append, Nat.reduceAdd, Nat.reduceSub, Nat.reduceLT, Nat.reduceEqDiff, Option.bind_eq_bind, Option.bind_some, Option.map_some, decide_true, decide_false, ↓reduceIte, bne_self_eq_false, Bool.bne_true, Bool.bne_false, Bool.not_true, Bool.not_false, Bool.false_eq_true, h0, hl, hx, h2, w, Option.getD_none]
    · have h2 : decide ([a] = [101]) = false := by simp [h1]
      have hA : A7 p1 p2 m = none := by
        unfold A7
        rw [hsf, if_neg]
        simp only [beq_iff_eq]
        exact fun h => h1 h.symm
      rw [hA]
      refine ⟨false, m.length, bra, m.length, ?_⟩
      rw [call24, b24_eq]
      simp only [exec, evalX, evalXs, evalT, locV, mk, Stem.get, Stem.put, truthV, cmpV, retOf, binV, insetV, inlV, negV, minV, lenV, aatV, flat, setL, List.getElem?_cons_zero, List.getElem?_cons_succ, List.set_cons_zero, List.set_cons_succ, List.length_cons, List.length_nil, List.replicate, List.cons_append, List.nil_append, Nat.reduceAdd, Nat.reduceSub, Nat.reduceLT, Nat.reduceEqDiff, Option.bind_eq_bind, Option.bind_some, Option.map_some, decide_true, decide_false, ↓reduceIte, bne_self_eq_false, Bool.bne_true, Bool.bne_false, Bool.not_true, Bool.not_false, Bool.false_eq_true, h0, hl, hx, h2, Option.getD_none]
theorem sfx2 (k l a b : Nat) (x : Tx) : sfx [k, l] (x ++ [a] ++ [b]) = ((l == b) && (k == a)) := by
  simp [List.isSuffixOf, List.isPrefixOf]
theorem step5b (d : Nat) (m : Tx) (bra ket p1 : Int) (p2 : Nat) (hm : m.length ≤ 100) : ∃ b c br ke, callN FNS (d+4) 25 [.slf] (mk m m.length m.length 0 bra ket p1 p2) = some (.bool b, mk ((A8 p2 m).getD m) c ((A8 p2 m).getD m).length 0 br ke p1 p2) := by
  rcases last_or m with e | ⟨x, a, e⟩
  · have hA : A8 p2 m = none := by rw [e]; rfl
    have hl : (m.length : Int) = 0 := by rw [e]; rfl
    have h0 : (0 : Int) ≤ 0 := by omega
    rw [hA]
    refine ⟨false, 0, bra, 0, ?_⟩
    rw [call25, hl]
    simp only [exec, evalX, evalXs, evalT, locV, mk, Stem.get, Stem.put, truthV, cmpV, retOf, binV, insetV, inlV, negV, minV, lenV, aatV, flat, setL, List.getElem?_cons_zero, List.getElem?_cons_succ, List.set_cons_zero, List.set_cons_succ, List.length_cons, List.length_nil, List.replicate, List.cons_append, List.nil_append, Nat.reduceAdd, Nat.reduceSub, Nat.reduceLT, Nat.reduceEqDiff, Option.bind_eq_bind, Option.bind_some, Option.map_some, decide_true, decide_false, ↓reduceIte, bne_self_eq_false, Bool.bne_true, Bool.bne_false, Bool.not_true, Bool.not_false, Bool.false_eq_true, b25, h0, Option.getD_none, hl]
  · have hl : (m.length : Int) - 1 = (x.length : Int) := by rw [e]; simp
    have h0 : ¬ (m.length : Int) ≤ 0 := by omega
    have hml : m.length = x.length + 1 := by rw [e]; simp
    have ht : m.take (m.length - 1) = x := by rw [e]; simp
    have hx : idxV (.str m) (.int (x.length : Int)) = some (.str [a]) := by rw [e]; exact idx_last x a
    by_cases h1 : a = 108
    · have h2 : decide ([a] = [108]) = true := by simp [h1]
      have hR := r_R2 (d+2) m (x.length : Int) m.length 0 (x.length : Int) m.length p1 p2
      simp only [mk] at hR
      by_cases h3 : p2 ≤ x.length
      · have h3' : (p2 : Int) ≤ (x.length : Int) := by omega
        rcases last_or x with e2 | ⟨y, b, e2⟩
        · have hA : A8 p2 m = none := by unfold A8; rw [e, e2, h1]; rfl
          have hl2 : (x.length : Int) ≤ 0 := by rw [e2]; simp
          rw [hA]
          refine ⟨false, (x.length : Int), (x.length : Int), m.length, ?_⟩
          rw [call25]
          simp only [exec, evalX, evalXs, evalT, locV, mk, Stem.get, Stem.put, truthV, cmpV, retOf, binV, insetV, inlV, negV, minV, lenV, aatV, flat, setL, List.getElem?_cons_zero, List.getElem?_cons_succ, List.set_cons_zero, List.set_cons_succ, List.length_cons, List.length_nil, List.replicate, List.cons_append, List.nil_append, Nat.reduceAdd, Nat.reduceSub, Nat.reduceLT, Nat.reduceEqDiff, Option.bind_eq_bind, Option.bind_some, Option.map_some, decide_true, decide_false, ↓reduceIte, bne_self_eq_false, Bool.bne_true, Bool.bne_false, Bool.not_true, Bool.not_false, Bool.false_eq_true, b25, h0, hl, hx, h2, hR, h3', hl2, Option.getD_none]
        · have hl2 : (x.length : Int) - 1 = (y.length : Int) := by rw [e2]; simp
          have h02 : ¬ (x.length : Int) ≤ 0 := by omega
          have hy : idxV (.str m) (.int (y.length : Int)) = some (.str [b]) := by rw [e, e2, List.append_assoc]; exact idx_app y [a] b
          have hA : A8 p2 m = if b = 108 then some x else none := by
            unfold A8
            rw [ht, hml]
            simp only [Nat.add_le_add_iff_right, h3, and_true]
            rw [e, e2, sfx2, h1]
            by_cases h4 : b = 108
            · simp [h4]
            · have : ¬ 108 = b := fun h => h4 h.symm
              simp [h4, this]
          rw [hA]
          by_cases h4 : b = 108
          · have h5 : decide ([b] = [108]) = true := by simp [h4]
            have hs := slice_del d m (y.length : Int) 0 p1 p2 x.length m.length (by omega) (by omega) (by omega)
            rw [put_end, List.append_nil, show m.take x.length = x by rw [e]; simp] at hs
            simp only [mk] at hs
            rw [if_pos h4]
            refine ⟨true, rc (y.length : Int) (x.length : Int) m.length 0, (x.length : Int), (x.length : Int), ?_⟩
            rw [call25]
            simp only [exec, evalX, evalXs, evalT, locV, mk, Stem.get, Stem.put, truthV, cmpV, retOf, binV, insetV, inlV, negV, minV, lenV, aatV, flat, setL, List.getElem?_cons_zero, List.getElem?_cons_succ, List.set_cons_zero, List.set_cons_succ, List.length_cons, List.length_nil, List.replicate, List.cons_append, List.nil_append, Nat.reduceAdd, Nat.reduceSub, Nat.reduceLT, Nat.reduceEqDiff, Option.bind_eq_bind, Option.bind_some, Option.map_some, decide_true, decide_false, ↓reduceIte, bne_self_eq_false, Bool.bne_true, Bool.bne_false, Bool.not_true, Bool.not_false, Bool.false_eq_true, b25, h0, hl, hx, h2, hR, h3', h02, hl2, hy, h5, hs, Option.getD_some]
          · have h5 : decide ([b] = [108]) = false := by simp [h4]
            rw [if_neg h4]
            refine ⟨false, (x.length : Int), (x.length : Int), m.length, ?_⟩
            rw [call25]
            simp only [exec, evalX, evalXs, evalT, locV, mk, Stem.get, Stem.put, truthV, cmpV, retOf, binV, insetV, inlV, negV, minV, lenV, aatV, flat, setL, List.getElem?_cons_zero, List.getElem?_cons_succ, List.set_cons_zero, List.set_cons_succ, List.length_cons, List.length_nil, List.replicate, List.cons_append, List.nil_append, Nat.reduceAdd, Nat.reduceSub, Nat.reduceLT, Nat.reduceEqDiff, Option.bind_eq_bind, Option.bind_some, Option.map_some, decide_true, decide_false, ↓reduceIte, bne_self_eq_false, Bool.bne_true, Bool.bne_false, Bool.not_true, Bool.not_false, Bool.false_eq_true, b25, h0, hl, hx, h2, hR, h3', h02, hl2, hy, h5, Option.getD_none]
      · have h3' : ¬ (p2 : Int) ≤ (x.length : Int) := by omega
        have hA : A8 p2 m = none := by
          unfold A8; rw [if_neg]; intro h; omega
        rw [hA]
        refine ⟨false, (x.length : Int), (x.length : Int), m.length, ?_⟩
        rw [call25]
        simp only [exec, evalX, evalXs, evalT, locV, mk, Stem.get, Stem.put, truthV, cmpV, retOf, binV, insetV, inlV, negV, minV, lenV, aatV, flat, setL, List.getElem?_cons_zero, List.getElem?_cons_succ, List.set_cons_zero, List.set_cons_succ, List.length_cons, List.length_nil, List.replicate, List.cons_append, List.nil_append, Nat.reduceAdd, Nat.reduceSub, Nat.reduceLT, Nat.reduceEqDiff, Option.bind_eq_bind, Option.bind_some, Option.map_some, decide_true, decide_false, ↓reduceIte, bne_self_eq_false, Bool.bne_true, Bool.bne_false, Bool.not_true, Bool.not_false, Bool.false_eq_true, b25, h0, hl, hx, h2, hR, h3', Option.getD_none]
    · have h2 : decide ([a] = [108]) = false := by simp [h1]
      have hA : A8 p2 m = none := by
        unfold A8
        rw [if_neg]
        intro h
        have h := h.1
        rcases last_or x with e2 | ⟨y, b, e2⟩
        · rw [e, e2] at h; simp [List.isSuffixOf, List.isPrefixOf] at h
        · rw [e, e2, sfx2] at h
          simp only [Bool.and_eq_true, beq_iff_eq] at h
          exact h1 h.1.symm
      rw [hA]
      refine ⟨false, m.length, bra, m.length, ?_⟩
      rw [call25]
      simp only [exec, evalX, evalXs, evalT, locV, mk, Stem.get, Stem.put, truthV, cmpV, retOf, binV, insetV, inlV, negV, minV, lenV, aatV, flat, setL, List.getElem?_cons_zero, List.getElem?_cons_succ, List.set_cons_zero, List.set_cons_succ, List.length_cons, List.length_nil, List.replicate, List.cons_append, List.nil_append, Nat.reduceAdd, Nat.reduceSub, Nat.reduceLT, Nat.reduceEqDiff, Option.bind_eq_bind, Option.bind_some, Option.map_some, decide_true, decide_false, ↓reduceIte, bne_self_eq_false, Bool.bne_true, Bool.bne_false, Bool.not_true, Bool.not_false, Bool.false_eq_true, b25, h0, hl, hx, h2, Option.getD_none]
end Mine.C
end

section
set_option Elab.async false
set_option maxRecDepth 100000
set_option linter.unusedVariables false
set_option linter.unusedSimpArgs false
namespace Mine.C
def P1T (W : Tx) : Bool := (rs T1 10).isPrefixOf W || (rs T1 5).isPrefixOf W || (rs T1 12).isPrefixOf W
theorem T1_best (W : Tx) : ∃ k, k < 13 ∧ best T1 W = some k ∧ ((res T1 k = 1 ∧ P1T W = true) ∨ (res T1 k = 2 ∧ P1T W = false ∧ dblR W = true) ∨ (res T1 k = 3 ∧ P1T W = false ∧ dblR W = false)) := by
  have hb := best_is T1_ok W
  cases ho : best T1 W with
  | none =>
    rw [ho] at hb
    have := hb 0 (by decide)
    rw [show rs T1 0 = [] from rfl] at this
    simp at this
  | some k =>
    rw [ho] at hb
    obtain ⟨h1, h2, h3⟩ := hb
    have h13 : k < 13 := h1
    refine ⟨k, h13, rfl, ?_⟩
    have hex : ∀ j, j < 13 → (rs T1 j).isPrefixOf (rs T1 k) = false → (rs T1 j).isPrefixOf W = false := by
      intro j hj hn
      cases hp : (rs T1 j).isPrefixOf W
      · rfl
      · rw [h3 j hj hp] at hn; cases hn
    by_cases h0 : k = 0
    · subst h0
      right; right
      have hP : P1T W = false := by
        unfold P1T
        rw [hex 10 (by decide) (by decide), hex 5 (by decide) (by decide), hex 12 (by decide) (by decide)]; rfl
      refine ⟨rfl, hP, ?_⟩
      cases hd : dblR W
      · rfl
      · exfalso
        match W, hd, hex with
        | [], hd, _ => cases hd
        | [_], hd, _ => cases hd
        | a :: b :: r, hd, hex =>
          simp only [dblR, Bool.and_eq_true, decide_eq_true_eq] at hd
          obtain ⟨e, hm⟩ := hd
          subst e
          simp only [dblL, List.contains_iff_mem, List.mem_cons, List.not_mem_nil, or_false] at hm
          rcases hm with h | h | h | h | h | h | h | h | h <;> subst h
          · have := hex 1 (by decide) (by decide); simp [rs, T1, List.isPrefixOf] at this
          · have := hex 2 (by decide) (by decide); simp [rs, T1, List.isPrefixOf] at this
          · have := hex 3 (by decide) (by decide); simp [rs, T1, List.isPrefixOf] at this
          · have := hex 4 (by decide) (by decide); simp [rs, T1, List.isPrefixOf] at this
          · have := hex 6 (by decide) (by decide); simp [rs, T1, List.isPrefixOf] at this
          · have := hex 7 (by decide) (by decide); simp [rs, T1, List.isPrefixOf] at this
          · have := hex 8 (by decide) (by decide); simp [rs, T1, List.isPrefixOf] at this
          · have := hex 9 (by decide) (by decide); simp [rs, T1, List.isPrefixOf] at this
          · have := hex 11 (by decide) (by decide); simp [rs, T1, List.isPrefixOf] at this
    · by_cases hA : k = 10 ∨ k = 5 ∨ k = 12
      · left
        refine ⟨?_, ?_⟩
        · rcases hA with h | h | h <;> subst h <;> rfl
        · unfold P1T
          rcases hA with h | h | h <;> subst h <;> rw [h2] <;> simp
      · right; left
        have hk : k = 1 ∨ k = 2 ∨ k = 3 ∨ k = 4 ∨ k = 6 ∨ k = 7 ∨ k = 8 ∨ k = 9 ∨ k = 11 := by omega
        refine ⟨?_, ?_, ?_⟩
        · rcases hk with h | h | h | h | h | h | h | h | h <;> subst h <;> rfl
        · unfold P1T
          rw [hex 10 (by decide) ?_, hex 5 (by decide) ?_, hex 12 (by decide) ?_]
          · rfl
          all_goals (rcases hk with h | h | h | h | h | h | h | h | h <;> subst h <;> decide)
        · rw [List.isPrefixOf_iff_prefix] at h2
          obtain ⟨r, hr⟩ := h2
          rw [← hr]
          rcases hk with h | h | h | h | h | h | h | h | h <;> subst h <;> rfl
theorem best_T2_1 {W : Tx} (h1 : (rs T2 1).isPrefixOf W = true) : best T2 W = some 1 := by
  refine best_eq T2_ok T2_nd (best_some (by decide) h1 fun m hm hl => ?_)
  have : m = 0 ∨ m = 1 ∨ m = 2 := by have : T2.length = 3 := rfl; omega
  rcases this with rfl | rfl | rfl <;> first | exact absurd hl (by decide) | assumption
theorem best_T2_0 {W : Tx} (h1 : (rs T2 1).isPrefixOf W = false) (h0 : (rs T2 0).isPrefixOf W = true) : best T2 W = some 0 := by
  refine best_eq T2_ok T2_nd (best_some (by decide) h0 fun m hm hl => ?_)
  have : m = 0 ∨ m = 1 ∨ m = 2 := by have : T2.length = 3 := rfl; omega
  rcases this with rfl | rfl | rfl
  · exact absurd hl (by decide)
  · assumption
  · cases h2 : (rs T2 2).isPrefixOf W
    · rfl
    · have := pre_pre h0 h2 (by decide)
      exact absurd this (by decide)
theorem best_T2_2 {W : Tx} (h2 : (rs T2 2).isPrefixOf W = true) : best T2 W = some 2 := by
  refine best_eq T2_ok T2_nd (best_some (by decide) h2 fun m hm hl => ?_)
  have : m = 0 ∨ m = 1 ∨ m = 2 := by have : T2.length = 3 := rfl; omega
  rcases this with rfl | rfl | rfl <;> first | exact absurd hl (by decide) | assumption
theorem best_T2_n {W : Tx} (h1 : (rs T2 1).isPrefixOf W = false) (h0 : (rs T2 0).isPrefixOf W = false) (h2 : (rs T2 2).isPrefixOf W = false) : best T2 W = none := by
  refine best_eq T2_ok T2_nd fun m hm => ?_
  have : m = 0 ∨ m = 1 ∨ m = 2 := by have : T2.length = 3 := rfl; omega
  rcases this with rfl | rfl | rfl <;> assumption
theorem call19 (d : Nat) (a : V) (σ : Sta) : callN FNS (d+1) 19 [a] σ = retOf (exec (callN FNS d) b19 [a, .undef, .undef, .undef, .undef, .undef] σ) := rfl
def S1b : S := (.seq (.asg 2 (.bin .sub (.fld 0 .l) (.fld 0 .c))) (.seq (.ife (.not (.x (.meth 5 0 (.cons (.glb 0) .nil)))) (.seq (.ret (.cst (.bool false))) .skip) .skip) (.seq (.augf 0 .c .sub (.cst (.int 1))) (.seq (.setf 0 .c (.bin .sub (.fld 0 .l) (.loc 2))) (.seq (.expr (.meth 9 0 .nil)) (.seq (.asg 3 (.bin .sub (.fld 0 .l) (.fld 0 .c))) (.seq (.asg 1 (.meth 6 0 (.cons (.glb 3) .nil))) (.seq (.setf 0 .c (.bin .sub (.fld 0 .l) (.loc 3))) (.seq (.ife (.x (.cmp .eq (.loc 1) (.cst (.int 1)))) (.seq (.asg 4 (.fld 0 .c)) (.seq (.expr (.meth 10 0 (.cons (.fld 0 .c) (.cons (.fld 0 .c) (.cons (.cst (.str [101])) .nil))))) (.seq (.setf 0 .c (.loc 4)) .skip))) (.seq (.ife (.x (.cmp .eq (.loc 1) (.cst (.int 2)))) (.seq (.setf 0 .ket (.fld 0 .c)) (.seq (.ife (.x (.cmp .le (.fld 0 .c) (.fld 0 .lb))) (.seq (.ret (.cst (.bool false))) .skip) .skip) (.seq (.augf 0 .c .sub (.cst (.int 1))) (.seq (.setf 0 .bra (.fld 0 .c)) (.seq (.expr (.meth 9 0 .nil)) .skip))))) (.seq (.ife (.x (.cmp .ne (.fld 0 .c) (.fld 0 .p1))) (.seq (.ret (.cst (.bool false))) .skip) .skip) (.seq (.asg 5 (.bin .sub (.fld 0 .l) (.fld 0 .c))) (.seq (.ife (.not (.x (.meth 15 0 .nil))) (.seq (.ret (.cst (.bool false))) .skip) .skip) (.seq (.setf 0 .c (.bin .sub (.fld 0 .l) (.loc 5))) (.seq (.asg 4 (.fld 0 .c)) (.seq (.expr (.meth 10 0 (.cons (.fld 0 .c) (.cons (.fld 0 .c) (.cons (.cst (.str [101])) .nil))))) (.seq (.setf 0 .c (.loc 4)) .skip)))))))) .skip)) .skip)))))))))
theorem b19_eq : b19 = (.seq (.setf 0 .ket (.fld 0 .c)) (.seq (.asg 1 (.meth 6 0 (.cons (.glb 4) .nil))) (.seq (.ife (.x (.cmp .eq (.loc 1) (.cst (.int 0)))) (.seq (.ret (.cst (.bool false))) .skip) .skip) (.seq (.setf 0 .bra (.fld 0 .c)) (.seq (.ife (.x (.cmp .eq (.loc 1) (.cst (.int 1)))) (.seq (.ife (.not (.x (.meth 16 0 .nil))) (.seq (.ret (.cst (.bool false))) .skip) .skip) (.seq (.expr (.meth 8 0 (.cons (.cst (.str [101, 101])) .nil))) .skip)) S1b) (.seq (.ret (.cst (.bool true))) .skip)))))) := rfl
/-- the second half of step 1b -/
theorem s1b_0 (d : Nat) (m x R : Tx) (e : m = x ++ R) (hm : m.length ≤ 100) (p1 p2 : Int) (hv : x.any isV = false) :
    ∃ ρ' c', exec (callN FNS (d+3)) S1b [.slf, .int 2, .undef, .undef, .undef, .undef] (mk m (x.length : Int) m.length 0 (x.length : Int) m.length p1 p2) = some (.ret (.bool false), ρ', mk m c' m.length 0 (x.length : Int) m.length p1 p2) := by
  have hxl : x.length ≤ m.length := by rw [e]; simp
  obtain ⟨c', k0, k1, k2⟩ := gogb (d+2) m x R m.length (x.length : Int) m.length p1 p2 e (by omega)
  have g0 : glbs[0]? = some (.set false) := rfl
  rw [hv] at k2
  simp only [mk] at k2
  refine ⟨[.slf, .int 2, .int ((m.length : Int) - (x.length : Int)), .undef, .undef, .undef], c', ?_⟩
  unfold S1b
  simp only [exec, evalX, evalXs, evalT, locV, mk, Stem.get, Stem.put, truthV, cmpV, retOf, binV, insetV, inlV, negV, minV, lenV, aatV, flat, setL, List.getElem?_cons_zero, List.getElem?_cons_succ, List.set_cons_zero, List.set_cons_succ, List.length_cons, List.length_nil, List.replicate, List.cons_append, List.nil_append, Nat.reduceAdd, Nat.reduceSub, Nat.reduceLT, Nat.reduceEqDiff, Option.bind_eq_bind, Option.bind_some, Option.map_some, decide_true, decide_false, ↓reduceIte, bne_self_eq_false, Bool.bne_true, Bool.bne_false, Bool.not_true, Bool.not_false, Bool.false_eq_true, g0, k2]
theorem s1b_1 (d : Nat) (m x R : Tx) (e : m = x ++ R) (hR : 0 < R.length) (hm : m.length ≤ 100) (p1 : Nat) (p2 : Int) (hv : x.any isV = true) :
    ∃ f ρ' c br ke, (f = .next ∨ f = .ret (.bool false)) ∧ exec (callN FNS (d+3)) S1b [.slf, .int 2, .undef, .undef, .undef, .undef] (mk m (x.length : Int) m.length 0 (x.length : Int) m.length p1 p2) = some (f, ρ', mk (tail2 p1 x) c (tail2 p1 x).length 0 br ke p1 p2) := by
  have hml : m.length = x.length + R.length := by rw [e]; simp
  have hx0 : 0 < x.length := by
    cases x with
    | nil => cases hv
    | cons a x => simp
  obtain ⟨c', k0, k1, k2⟩ := gogb (d+2) m x R m.length (x.length : Int) m.length p1 p2 e (by omega)
  have g0 : glbs[0]? = some (.set false) := rfl
  have g3 : glbs[3]? = some (tabV T1) := rfl
  rw [hv] at k2
  have e1 : (m.length : Int) - ((m.length : Int) - (x.length : Int)) = (x.length : Int) := by omega
  have hrc : rc (x.length : Int) (x.length : Int) m.length 0 = (x.length : Int) := by
    unfold rc; rw [if_neg (by omega), if_neg (by omega)]
  have hs := slice_del d m (x.length : Int) 0 p1 p2 x.length m.length (by omega) (by omega) (by omega)
  rw [put_end, List.append_nil, show m.take x.length = x by rw [e]; simp, hrc] at hs
  have hf := find_b (d+2) T1 T1_ok T1_nd x x.length x.length x.length p1 p2
  have e2 : (x.length : Int) - ((x.length : Int) - (x.length : Int)) = (x.length : Int) := by omega
  obtain ⟨k, hk, hb, hcase⟩ := T1_best x.reverse
  rw [hb] at hf
  dsimp only at hf
  obtain ⟨br, ke, hi⟩ := insert (d+1) x [101] (x.length : Int) x.length 0 x.length x.length p1 p2 x.length x.length (by omega) (by simp)
  have hput : put x x.length x.length [101] = x ++ [101] := by simp [put]
  have hle : (x.length : Int) + ((([101] : Tx).length : Int) - ((x.length : Int) - (x.length : Int))) = ((x ++ [101]).length : Int) := by simp
  rw [hput, hle] at hi
  have hT : tail2 p1 x = if P1T x.reverse then x ++ [101] else if dblR x.reverse then x.take (x.length - 1) else if x.length = p1 ∧ shR x.reverse = true then x ++ [101] else x := rfl
  rw [hT]
  rcases hcase with ⟨r1, hP⟩ | ⟨r1, hP, hD⟩ | ⟨r1, hP, hD⟩
  · rw [if_pos hP]
    rw [r1] at hf
    simp only [mk] at k2 hs hf hi
    refine ⟨.next, [.slf, .int 1, .int ((m.length : Int) - (x.length : Int)), .int ((x.length : Int) - (x.length : Int)), .int (x.length : Int), .undef], x.length, br, ke, Or.inl rfl, ?_⟩
    unfold S1b
    simp only [exec, evalX, evalXs, evalT, locV, mk, Stem.get, Stem.put, truthV, cmpV, retOf, binV, insetV, inlV, negV, minV, lenV, aatV, flat, setL, List.getElem?_cons_zero, List.getElem?_cons_succ, List.set_cons_zero, List.set_cons_succ, List.length_cons, List.length_nil, List.replicate, List.cons_append, List.nil_append, Nat.reduceAdd, Nat.reduceSub, Nat.reduceLT, Nat.reduceEqDiff, Option.bind_eq_bind, Option.bind_some, Option.map_some, decide_true, decide_false, ↓reduceIte, bne_self_eq_false, Bool.bne_true, Bool.bne_false, Bool.not_true, Bool.not_false, Bool.false_eq_true, g0, g3, k2, e1, hs, hf, e2, hi]
  · rw [if_neg (by rw [hP]; simp), if_pos hD]
    rw [r1] at hf
    have hne : ¬ (x.length : Int) ≤ 0 := by omega
    have hn1 : ¬ ((2 : Int) = 1) := by omega
    have e3 : (x.length : Int) - 1 = ((x.length - 1 : Nat) : Int) := by omega
    have hs2 := slice_del d x ((x.length - 1 : Nat) : Int) 0 p1 p2 (x.length - 1) x.length (by omega) (by omega) (by omega)
    rw [put_end, List.append_nil] at hs2
    simp only [mk] at k2 hs hf hs2
    refine ⟨.next, [.slf, .int 2, .int ((m.length : Int) - (x.length : Int)), .int ((x.length : Int) - (x.length : Int)), .undef, .undef], rc ((x.length - 1 : Nat) : Int) ((x.length - 1 : Nat) : Int) x.length 0, ((x.length - 1 : Nat) : Int), ((x.length - 1 : Nat) : Int), Or.inl rfl, ?_⟩
    unfold S1b
    simp only [exec, evalX, evalXs, evalT, locV, mk, Stem.get, Stem.put, truthV, cmpV, retOf, binV, insetV, inlV, negV, minV, lenV, aatV, flat, setL, List.getElem?_cons_zero, List.getElem?_cons_succ, List.set_cons_zero, List.set_cons_succ, List.length_cons, List.length_nil, List.replicate, List.cons_append, List.nil_append, Nat.reduceAdd, Nat.reduceSub, Nat.reduceLT, Nat.reduceEqDiff, Option.bind_eq_bind, Option.bind_some, Option.map_some, decide_true, decide_false, ↓reduceIte, bne_self_eq_false, Bool.bne_true, Bool.bne_false, Bool.not_true, Bool.not_false, Bool.false_eq_true, g0, g3, k2, e1, hs, hf, e2, hne, hn1, e3, hs2]
  · rw [if_neg (by rw [hP]; simp), if_neg (by rw [hD]; simp)]
    rw [r1] at hf
    have hn1 : ¬ ((3 : Int) = 1) := by omega
    have hn2 : ¬ ((3 : Int) = 2) := by omega
    obtain ⟨c2, hsh⟩ := r_shortv (d+1) x x.reverse [] x.length x.length x.length p1 p2 (by simp)
    rw [List.length_reverse] at hsh
    by_cases h1 : x.length = p1
    · have h1' : decide ((x.length : Int) = (p1 : Int)) = true := by rw [h1]; simp
      cases h2 : shR x.reverse
      · rw [h2] at hsh
        rw [if_neg (by simp)]
        simp only [mk] at k2 hs hf hsh
        refine ⟨.ret (.bool false), [.slf, .int 3, .int ((m.length : Int) - (x.length : Int)), .int ((x.length : Int) - (x.length : Int)), .undef, .int ((x.length : Int) - (x.length : Int))], c2, x.length, x.length, Or.inr rfl, ?_⟩
        unfold S1b
        simp only [exec, evalX, evalXs, evalT, locV, mk, Stem.get, Stem.put, truthV, cmpV, retOf, binV, insetV, inlV, negV, minV, lenV, aatV, flat, setL, List.getElem?_cons_zero, List.getElem?_cons_succ, List.set_cons_zero, List.set_cons_succ, List.length_cons, List.length_nil, List.replicate, List.cons_append, List.nil_append, Nat.reduceAdd, Nat.reduceSub, Nat.reduceLT, Nat.reduceEqDiff, Option.bind_eq_bind, Option.bind_some, Option.map_some, decide_true, decide_false, ↓reduceIte, bne_self_eq_false, Bool.bne_true, Bool.bne_false, Bool.not_true, Bool.not_false, Bool.false_eq_true, g0, g3, k2, e1, hs, hf, e2, hn1, hn2, h1', hsh]
      · rw [h2] at hsh
        rw [if_pos ⟨h1, rfl⟩]
        simp only [mk] at k2 hs hf hsh hi
        refine ⟨.next, [.slf, .int 3, .int ((m.length : Int) - (x.length : Int)), .int ((x.length : Int) - (x.length : Int)), .int (x.length : Int), .int ((x.length : Int) - (x.length : Int))], x.length, br, ke, Or.inl rfl, ?_⟩
        unfold S1b
        simp only [exec, evalX, evalXs, evalT, locV, mk, Stem.get, Stem.put, truthV, cmpV, retOf, binV, insetV, inlV, negV, minV, lenV, aatV, flat, setL, List.getElem?_cons_zero, List.getElem?_cons_succ, List.set_cons_zero, List.set_cons_succ, List.length_cons, List.length_nil, List.replicate, List.cons_append, List.nil_append, Nat.reduceAdd, Nat.reduceSub, Nat.reduceLT, Nat.reduceEqDiff, Option.bind_eq_bind, Option.bind_some, Option.map_some, decide_true, decide_false, ↓reduceIte, bne_self_eq_false, Bool.bne_true, Bool.bne_false, Bool.not_true, Bool.not_false, Bool.false_eq_true, g0, g3, k2, e1, hs, hf, e2, hn1, hn2, h1', hsh, hi]
    · have h1' : decide ((x.length : Int) = (p1 : Int)) = false := by simp; omega
      rw [if_neg (fun h => h1 h.1)]
      simp only [mk] at k2 hs hf
      refine ⟨.ret (.bool false), [.slf, .int 3, .int ((m.length : Int) - (x.length : Int)), .int ((x.length : Int) - (x.length : Int)), .undef, .undef], x.length, x.length, x.length, Or.inr rfl, ?_⟩
      unfold S1b
      simp only [exec, evalX, evalXs, evalT, locV, mk, Stem.get, Stem.put, truthV, cmpV, retOf, binV, insetV, inlV, negV, minV, lenV, aatV, flat, setL, List.getElem?_cons_zero, List.getElem?_cons_succ, List.set_cons_zero, List.set_cons_succ, List.length_cons, List.length_nil, List.replicate, List.cons_append, List.nil_append, Nat.reduceAdd, Nat.reduceSub, Nat.reduceLT, Nat.reduceEqDiff, Option.bind_eq_bind, Option.bind_some, Option.map_some, decide_true, decide_false, ↓reduceIte, bne_self_eq_false, Bool.bne_true, Bool.bne_false, Bool.not_true, Bool.not_false, Bool.false_eq_true, g0, g3, k2, e1, hs, hf, e2, hn1, hn2, h1']
theorem step1b_tail (d : Nat) (m : Tx) (k r : Nat) (bra ket : Int) (p1 : Nat) (p2 : Int) (hm : m.length ≤ 100) (hb : best T2 m.reverse = some k) (hr : (rs T2 k).length = r) (hr0 : 0 < r) (hre : res T2 k = 2) :
    ∃ b c br ke, callN FNS (d+4) 19 [.slf] (mk m m.length m.length 0 bra ket p1 p2) = some (.bool b, mk ((if (m.take (m.length - r)).any isV then some (tail2 p1 (m.take (m.length - r))) else none).getD m) c ((if (m.take (m.length - r)).any isV then some (tail2 p1 (m.take (m.length - r))) else none).getD m).length 0 br ke p1 p2) := by
  have hf := find_b (d+2) T2 T2_ok T2_nd m m.length bra m.length p1 p2
  rw [hb] at hf
  dsimp only at hf
  obtain ⟨f1, f2, f3⟩ := best_facts T2_ok hb
  rw [hr] at hf f2 f3
  rw [hre] at hf
  have g4 : glbs[4]? = some (tabV T2) := rfl
  have hn0 : ¬ ((2 : Int) = 0) := by omega
  have hn1 : ¬ ((2 : Int) = 1) := by omega
  have hxl : (m.take (m.length - r)).length = m.length - r := by rw [List.length_take]; omega
  generalize hx : m.take (m.length - r) = x at *
  rw [← hxl] at hf
  cases hv : x.any isV
  · obtain ⟨ρ', c', h⟩ := s1b_0 d m x (rs T2 k).reverse f2 hm p1 p2 hv
    simp only [mk] at hf h
    refine ⟨false, c', x.length, m.length, ?_⟩
    rw [call19, b19_eq]
    simp only [exec, evalX, evalXs, evalT, locV, mk, Stem.get, Stem.put, truthV, cmpV, retOf, binV, insetV, inlV, negV, minV, lenV, aatV, flat, setL, List.getElem?_cons_zero, List.getElem?_cons_succ, List.set_cons_zero, List.set_cons_succ, List.length_cons, List.length_nil, List.replicate, List.cons_append, List.nil_append, Nat.reduceAdd, Nat.reduceSub, Nat.reduceLT, Nat.reduceEqDiff, Option.bind_eq_bind, Option.bind_some, Option.map_some, decide_true, decide_false, ↓reduceIte, bne_self_eq_false, Bool.bne_true, Bool.bne_false, Bool.not_true, Bool.not_false, Bool.false_eq_true, g4, hf, hn0, hn1, h, Option.getD_none]
  · obtain ⟨f, ρ', c, br, ke, hff, h⟩ := s1b_1 d m x (rs T2 k).reverse f2 (by simp; omega) hm p1 p2 hv
    simp only [mk] at hf h
    rcases hff with rfl | rfl
    · refine ⟨true, c, br, ke, ?_⟩
      rw [call19, b19_eq]
      simp only [exec, evalX, evalXs, evalT, locV, mk, Stem.get, Stem.put, truthV, cmpV, retOf, binV, insetV, inlV, negV, minV, lenV, aatV, flat, setL, List.getElem?_cons_zero, List.getElem?_cons_succ, List.set_cons_zero, List.set_cons_succ, List.length_cons, List.length_nil, List.replicate, List.cons_append, List.nil_append, Nat.reduceAdd, Nat.reduceSub, Nat.reduceLT, Nat.reduceEqDiff, Option.bind_eq_bind, Option.bind_some, Option.map_some, decide_true, decide_false, ↓reduceIte, bne_self_eq_false, Bool.bne_true, Bool.bne_false, Bool.not_true, Bool.not_false, Bool.false_eq_true, g4, hf, hn0, hn1, h, Option.getD_some]
    · refine ⟨false, c, br, ke, ?_⟩
      rw [call19, b19_eq]
      simp only [exec, evalX, evalXs, evalT, locV, mk, Stem.get, Stem.put, truthV, cmpV, retOf, binV, insetV, inlV, negV, minV, lenV, aatV, flat, setL, List.getElem?_cons_zero, List.getElem?_cons_succ, List.set_cons_zero, List.set_cons_succ, List.length_cons, List.length_nil, List.replicate, List.cons_append, List.nil_append, Nat.reduceAdd, Nat.reduceSub, Nat.reduceLT, Nat.reduceEqDiff, Option.bind_eq_bind, Option.bind_some, Option.map_some, decide_true, decide_false, ↓reduceIte, bne_self_eq_false, Bool.bne_true, Bool.bne_false, Bool.not_true, Bool.not_false, Bool.false_eq_true, g4, hf, hn0, hn1, h, Option.getD_some]
theorem step1b (d : Nat) (m : Tx) (bra ket : Int) (p1 : Nat) (p2 : Int) (hm : m.length ≤ 100) : ∃ b c br ke, callN FNS (d+4) 19 [.slf] (mk m m.length m.length 0 bra ket p1 p2) = some (.bool b, mk ((A2 p1 m).getD m) c ((A2 p1 m).getD m).length 0 br ke p1 p2) := by
  have u0 : sfx [101, 100] m = (rs T2 0).isPrefixOf m.reverse := rfl
  have u1 : sfx [101, 101, 100] m = (rs T2 1).isPrefixOf m.reverse := rfl
  have u2 : sfx [105, 110, 103] m = (rs T2 2).isPrefixOf m.reverse := rfl
  have hf := find_b (d+2) T2 T2_ok T2_nd m m.length bra m.length p1 p2
  have g4 : glbs[4]? = some (tabV T2) := rfl
  unfold A2
  rw [u0, u1, u2]
  cases h1 : (rs T2 1).isPrefixOf m.reverse
  · rw [if_neg (by simp)]
    cases h0 : (rs T2 0).isPrefixOf m.reverse
    · rw [if_neg (by simp)]
      cases h2 : (rs T2 2).isPrefixOf m.reverse
      · rw [if_neg (by simp)]
        rw [best_T2_n h1 h0 h2] at hf
        simp only [mk] at hf
        refine ⟨false, m.length, bra, m.length, ?_⟩
        rw [call19, b19_eq]
        simp only [exec, evalX, evalXs, evalT, locV, mk, Stem.get, Stem.put, truthV, cmpV, retOf, binV, insetV, inlV, negV, minV, lenV, aatV, flat, setL, List.getElem?_cons_zero, List.getElem?_cons_succ, List.set_cons_zero, List.set_cons_succ, List.length_cons, List.length_nil, List.replicate, List.cons_append, List.nil_append, Nat.reduceAdd, Nat.reduceSub, Nat.reduceLT, Nat.reduceEqDiff, Option.bind_eq_bind, Option.bind_some, Option.map_some, decide_true, decide_false, ↓reduceIte, bne_self_eq_false, Bool.bne_true, Bool.bne_false, Bool.not_true, Bool.not_false, Bool.false_eq_true, g4, hf, Option.getD_none]
      · rw [if_pos rfl]
        exact step1b_tail d m 2 3 bra ket p1 p2 hm (best_T2_2 h2) rfl (by omega) rfl
    · rw [if_pos rfl]
      exact step1b_tail d m 0 2 bra ket p1 p2 hm (best_T2_0 h1 h0) rfl (by omega) rfl
  · rw [if_pos rfl]
    have hb := best_T2_1 h1
    rw [hb] at hf
    dsimp only at hf
    obtain ⟨e1, e2⟩ := pre_split h1
    have l0 : (rs T2 1).length = 3 := rfl
    have r0 : res T2 1 = 1 := rfl
    rw [l0] at e1 e2 hf
    rw [r0] at hf
    have hn0 : ¬ ((1 : Int) = 0) := by omega
    have hR := r_R1 (d+2) m ((m.length - 3 : Nat) : Int) m.length 0 ((m.length - 3 : Nat) : Int) m.length p1 p2
    by_cases h3 : p1 + 3 ≤ m.length
    · have h3' : (p1 : Int) ≤ ((m.length - 3 : Nat) : Int) := by omega
      rw [if_pos h3]
      have hA : m.take (m.length - 1) = m.take (m.length - 3) ++ [101, 101] := by
        have : (m.take (m.length - 3)).length = m.length - 3 := by simp
        generalize hx : m.take (m.length - 3) = x at *
        rw [show m.length - 1 = x.length + 2 by omega, e1]
        show (x ++ [101, 101, 100]).take (x.length + 2) = _
        rw [take_app]; rfl
      rw [hA]
      have hs := slice_from (d+1) m [101, 101] ((m.length - 3 : Nat) : Int) 0 p1 p2 (m.length - 3) m.length (by omega) (by simp) (by omega) (by omega)
      rw [put_end] at hs
      simp only [mk] at hs hf hR
      refine ⟨true, rc ((m.length - 3 : Nat) : Int) ((m.length - 3 : Nat) : Int) m.length 2, ((m.length - 3 : Nat) : Int), ((m.length - 3 : Nat) : Int) + 2, ?_⟩
      rw [call19, b19_eq]
      simp only [exec, evalX, evalXs, evalT, locV, mk, Stem.get, Stem.put, truthV, cmpV, retOf, binV, insetV, inlV, negV, minV, lenV, aatV, flat, setL, List.getElem?_cons_zero, List.getElem?_cons_succ, List.set_cons_zero, List.set_cons_succ, List.length_cons, List.length_nil, List.replicate, List.cons_append, List.nil_append, Nat.reduceAdd, Nat.reduceSub, Nat.reduceLT, Nat.reduceEqDiff, Option.bind_eq_bind, Option.bind_some, Option.map_some, decide_true, decide_false, ↓reduceIte, bne_self_eq_false, Bool.bne_true, Bool.bne_false, Bool.not_true, Bool.not_false, Bool.false_eq_true, g4, hf, hn0, hR, h3', hs, Option.getD_some]
      rfl
    · have h3' : ¬ (p1 : Int) ≤ ((m.length - 3 : Nat) : Int) := by omega
      rw [if_neg h3]
      simp only [mk] at hf hR
      refine ⟨false, ((m.length - 3 : Nat) : Int), ((m.length - 3 : Nat) : Int), m.length, ?_⟩
      rw [call19, b19_eq]
      simp only [exec, evalX, evalXs, evalT, locV, mk, Stem.get, Stem.put, truthV, cmpV, retOf, binV, insetV, inlV, negV, minV, lenV, aatV, flat, setL, List.getElem?_cons_zero, List.getElem?_cons_succ, List.set_cons_zero, List.set_cons_succ, List.length_cons, List.length_nil, List.replicate, List.cons_append, List.nil_append, Nat.reduceAdd, Nat.reduceSub, Nat.reduceLT, Nat.reduceEqDiff, Option.bind_eq_bind, Option.bind_some, Option.map_some, decide_true, decide_false, ↓reduceIte, bne_self_eq_false, Bool.bne_true, Bool.bne_false, Bool.not_true, Bool.not_false, Bool.false_eq_true, g4, hf, hn0, hR, h3', Option.getD_none]
end Mine.C
end

section
set_option Elab.async false
set_option maxRecDepth 100000
set_option linter.unusedVariables false
set_option linter.unusedSimpArgs false
namespace Mine.C
/-- a stemmer whose two regions may not stand yet -/
def mko (t : Tx) (c l lb bra ket : Int) (o1 o2 : Option V) : Sta := some ⟨some (.str t), some (.int c), some (.int l), some (.int lb), some (.int bra), some (.int ket), o1, o2⟩
theorem igo_0 (d : Nat) (t : Tx) (c l lb bra ket : Int) (o1 o2 : Option V) (h2 : l ≤ c) : callN FNS (d + 1) 0 [.slf, .set false] (mko t c l lb bra ket o1 o2) = some (.bool false, mko t c l lb bra ket o1 o2) := by
  simp only [exec, evalX, evalXs, evalT, locV, mk, Stem.get, Stem.put, truthV, cmpV, retOf, binV, insetV, inlV, negV, minV, lenV, aatV, flat, setL, List.getElem?_cons_zero, List.getElem?_cons_succ, List.set_cons_zero, List.set_cons_succ, List.length_cons, List.length_nil, List.replicate, List.cons_append, List.nil_append, Nat.reduceAdd, Nat.reduceSub, Nat.reduceLT, Nat.reduceEqDiff, Option.bind_eq_bind, Option.bind_some, Option.map_some, decide_true, decide_false, ↓reduceIte, bne_self_eq_false, Bool.bne_true, Bool.bne_false, Bool.not_true, Bool.not_false, Bool.false_eq_true, call0, b0, h2, mko]
theorem igo_1 (d : Nat) (t : Tx) (c l lb bra ket : Int) (o1 o2 : Option V) (x : Nat) (h2 : ¬ l ≤ c) (hx : idxV (.str t) (.int c) = some (.str [x])) : callN FNS (d + 1) 0 [.slf, .set false] (mko t c l lb bra ket o1 o2) =
   if isV x then some (.bool true, mko t (c+1) l lb bra ket o1 o2) else some (.bool false, mko t c l lb bra ket o1 o2) := by
  cases h3 : isV x
  · have h4 : (setTx false).contains [x] = false := h3
    simp only [exec, evalX, evalXs, evalT, locV, mk, Stem.get, Stem.put, truthV, cmpV, retOf, binV, insetV, inlV, negV, minV, lenV, aatV, flat, setL, List.getElem?_cons_zero, List.getElem?_cons_succ, List.set_cons_zero, List.set_cons_succ, List.length_cons, List.length_nil, List.replicate, List.cons_append, List.nil_append, Nat.reduceAdd, Nat.reduceSub, Nat.reduceLT, Nat.reduceEqDiff, Option.bind_eq_bind, Option.bind_some, Option.map_some, decide_true, decide_false, ↓reduceIte, bne_self_eq_false, Bool.bne_true, Bool.bne_false, Bool.not_true, Bool.not_false, Bool.false_eq_true, call0, b0, h2, h4, hx, mko]
  · have h4 : (setTx false).contains [x] = true := h3
    simp only [exec, evalX, evalXs, evalT, locV, mk, Stem.get, Stem.put, truthV, cmpV, retOf, binV, insetV, inlV, negV, minV, lenV, aatV, flat, setL, List.getElem?_cons_zero, List.getElem?_cons_succ, List.set_cons_zero, List.set_cons_succ, List.length_cons, List.length_nil, List.replicate, List.cons_append, List.nil_append, Nat.reduceAdd, Nat.reduceSub, Nat.reduceLT, Nat.reduceEqDiff, Option.bind_eq_bind, Option.bind_some, Option.map_some, decide_true, decide_false, ↓reduceIte, bne_self_eq_false, Bool.bne_true, Bool.bne_false, Bool.not_true, Bool.not_false, Bool.false_eq_true, call0, b0, h2, h4, hx, mko]
theorem replace_o (d : Nat) (t s : Tx) (c l lb bra ket : Int) (o1 o2 : Option V) (a b : Nat) (ht : t.length ≤ 500) (hs : s.length ≤ 500) :
    callN FNS (d+1) 7 [.slf, .int (a : Int), .int (b : Int), .str s] (mko t c l lb bra ket o1 o2) = some (.int ((s.length : Int) - (b - a)), mko (put t a b s) (rc c a b s.length) (l + ((s.length : Int) - (b - a))) lb bra ket o1 o2) := by
  have h1 : (t.take a).length + s.length ≤ sizeMax := by
    have : (t.take a).length ≤ t.length := by rw [List.length_take]; omega
    show _ ≤ 2 ^ 20
    omega
  have h2 : (t.take a ++ s).length + (t.drop b).length ≤ sizeMax := by
    have : (t.take a).length ≤ t.length := by rw [List.length_take]; omega
    have : (t.drop b).length ≤ t.length := by rw [List.length_drop]; omega
    rw [List.length_append]
    show _ ≤ 2 ^ 20
    omega
  by_cases h3 : (b : Int) ≤ c
  · simp only [exec, evalX, evalXs, evalT, locV, mk, Stem.get, Stem.put, truthV, cmpV, retOf, binV, insetV, inlV, negV, minV, lenV, aatV, flat, setL, List.getElem?_cons_zero, List.getElem?_cons_succ, List.set_cons_zero, List.set_cons_succ, List.length_cons, List.length_nil, List.replicate, List.cons_append, List.nil_append, Nat.reduceAdd, Nat.reduceSub, Nat.reduceLT, Nat.reduceEqDiff, Option.bind_eq_bind, Option.bind_some, Option.map_some, decide_true, decide_false, ↓reduceIte, bne_self_eq_false, Bool.bne_true, Bool.bne_false, Bool.not_true, Bool.not_false, Bool.false_eq_true, call7, b7, slc_lo, slc_hi, h1, h2, h3, rc, put, mko]
  · by_cases h4 : (a : Int) < c
    · simp only [exec, evalX, evalXs, evalT, locV, mk, Stem.get, Stem.put, truthV, cmpV, retOf, binV, insetV, inlV, negV, minV, lenV, aatV, flat, setL, List.getElem?_cons_zero, List.getElem?_cons_succ, List.set_cons_zero, List.set_cons_succ, List.length_cons, List.length_nil, List.replicate, List.cons_append, List.nil_append, Nat.reduceAdd, Nat.reduceSub, Nat.reduceLT, Nat.reduceEqDiff, Option.bind_eq_bind, Option.bind_some, Option.map_some, decide_true, decide_false, ↓reduceIte, bne_self_eq_false, Bool.bne_true, Bool.bne_false, Bool.not_true, Bool.not_false, Bool.false_eq_true, call7, b7, slc_lo, slc_hi, h1, h2, h3, h4, rc, put, mko]
    · simp only [exec, evalX, evalXs, evalT, locV, mk, Stem.get, Stem.put, truthV, cmpV, retOf, binV, insetV, inlV, negV, minV, lenV, aatV, flat, setL, List.getElem?_cons_zero, List.getElem?_cons_succ, List.set_cons_zero, List.set_cons_succ, List.length_cons, List.length_nil, List.replicate, List.cons_append, List.nil_append, Nat.reduceAdd, Nat.reduceSub, Nat.reduceLT, Nat.reduceEqDiff, Option.bind_eq_bind, Option.bind_some, Option.map_some, decide_true, decide_false, ↓reduceIte, bne_self_eq_false, Bool.bne_true, Bool.bne_false, Bool.not_true, Bool.not_false, Bool.false_eq_true, call7, b7, slc_lo, slc_hi, h1, h2, h3, h4, rc, put, mko]
theorem slice_o (d : Nat) (t s : Tx) (c lb : Int) (o1 o2 : Option V) (a b : Nat) (ht : t.length ≤ 500) (hs : s.length ≤ 500) (hab : a ≤ b) (hb : b ≤ t.length) :
    callN FNS (d+2) 8 [.slf, .str s] (mko t c t.length lb a b o1 o2) = some (.none, mko (put t a b s) (rc c a b s.length) (put t a b s).length lb a ((a : Int) + s.length) o1 o2) := by
  have h1 : (0 : Int) ≤ (a : Int) := by omega
  have h2 : (a : Int) ≤ (b : Int) := by omega
  have h3 : (b : Int) ≤ (t.length : Int) := by omega
  have h4 : (t.length : Int) ≤ (t.length : Int) := by omega
  have hr := replace_o d t s c t.length lb a b o1 o2 a b ht hs
  rw [← put_len t s a b hab hb] at hr
  simp only [mko] at hr
  simp only [exec, evalX, evalXs, evalT, locV, mk, Stem.get, Stem.put, truthV, cmpV, retOf, binV, insetV, inlV, negV, minV, lenV, aatV, flat, setL, List.getElem?_cons_zero, List.getElem?_cons_succ, List.set_cons_zero, List.set_cons_succ, List.length_cons, List.length_nil, List.replicate, List.cons_append, List.nil_append, Nat.reduceAdd, Nat.reduceSub, Nat.reduceLT, Nat.reduceEqDiff, Option.bind_eq_bind, Option.bind_some, Option.map_some, decide_true, decide_false, ↓reduceIte, bne_self_eq_false, Bool.bne_true, Bool.bne_false, Bool.not_true, Bool.not_false, Bool.false_eq_true, call8, b8, h1, h2, h3, h4, hr, mko]
/-- one sign in place of one sign -/
theorem slice_1 (d : Nat) (t A B : Tx) (x y : Nat) (c lb : Int) (o1 o2 : Option V) (ht : t = A ++ x :: B) (hl : t.length ≤ 500) :
    callN FNS (d+2) 8 [.slf, .str [y]] (mko t c t.length lb (A.length : Int) ((A.length : Int) + 1) o1 o2) = some (.none, mko (A ++ y :: B) c t.length lb (A.length : Int) ((A.length : Int) + 1) o1 o2) := by
  have hml : t.length = A.length + (B.length + 1) := by rw [ht]; simp
  have hs := slice_o d t [y] c lb o1 o2 A.length (A.length + 1) hl (by simp) (by omega) (by omega)
  have hp : put t A.length (A.length + 1) [y] = A ++ y :: B := by
    rw [ht]
    unfold put
    have : (A ++ x :: B).drop (A.length + 1) = B := by
      rw [List.drop_append, List.drop_of_length_le (by omega), Nat.add_sub_cancel_left]
      rfl
    rw [this]
    simp
  rw [hp] at hs
  have e1 : (((A.length + 1 : Nat) : Nat) : Int) = (A.length : Int) + 1 := by omega
  have e2 : (A ++ y :: B).length = t.length := by simp [hml]
  have e3 : rc c (A.length : Int) ((A.length : Int) + 1) (([y] : Tx).length : Int) = c := by
    unfold rc
    simp only [List.length_cons, List.length_nil]
    split
    · omega
    · split <;> omega
  rw [e2, e1, e3] at hs
  exact hs
/-- the first place where a vowel has a 'y' behind it -/
def nx : Tx → Option Nat
  | x :: y :: r => if isV x = true ∧ y = 121 then some 0 else (nx (y :: r)).map (· + 1)
  | _ => none
theorem nx_cons (x y : Nat) (r : Tx) : nx (x :: y :: r) = if isV x = true ∧ y = 121 then some 0 else (nx (y :: r)).map (· + 1) := by rw [nx]
def INb : S := (.seq (.asg 5 (.fld 0 .c)) (.seq (.tryx 2 (.seq (.ife (.not (.x (.meth 0 0 (.cons (.glb 0) .nil)))) (.seq (.raise 2) .skip) .skip) (.seq (.setf 0 .bra (.fld 0 .c)) (.seq (.ife (.or (.x (.cmp .eq (.fld 0 .c) (.fld 0 .l))) (.or (.x (.cmp .ne (.idx (.fld 0 .cur) (.fld 0 .c)) (.cst (.str [121])))) .ff)) (.seq (.raise 2) .skip) .skip) (.seq (.augf 0 .c .add (.cst (.int 1))) (.seq (.setf 0 .ket (.fld 0 .c)) (.seq (.setf 0 .c (.loc 5)) (.seq .brk .skip)))))))) (.seq (.setf 0 .c (.loc 5)) (.seq (.ife (.x (.cmp .ge (.fld 0 .c) (.fld 0 .l))) (.seq (.raise 1) .skip) .skip) (.seq (.augf 0 .c .add (.cst (.int 1))) .skip)))))
def INw : S := .whl (.x (.cst (.bool true))) INb
def OUb : S := (.seq (.asg 4 (.fld 0 .c)) (.seq (.tryx 1 (.seq INw (.seq (.expr (.meth 8 0 (.cons (.cst (.str [89])) .nil))) (.seq (.asg 1 (.cst (.bool true))) (.seq .cont .skip))))) (.seq (.setf 0 .c (.loc 4)) (.seq .brk .skip))))
def OUw : S := .whl (.x (.cst (.bool true))) OUb
theorem in_x (d : Nat) (t : Tx) (o1 o2 : Option V) (B v1 v2 v3 : V) (rr : List V) : ∀ (R P : Tx) (n : Nat) (x5 : V) (bra ket : Int), t = P ++ R → R.length < n →
    match nx R with
    | some j => iterW (fun ρ σ => evalT (callN FNS (d+1)) ρ (.x (.cst (.bool true))) σ) (fun ρ σ => exec (callN FNS (d+1)) INb ρ σ) n (.slf :: B :: v1 :: v2 :: v3 :: x5 :: rr) (mko t (P.length : Int) (t.length : Int) 0 bra ket o1 o2)
        = some (.next, .slf :: B :: v1 :: v2 :: v3 :: .int ((P.length + j : Nat) : Int) :: rr, mko t ((P.length + j : Nat) : Int) (t.length : Int) 0 ((P.length + j : Nat) + 1 : Int) ((P.length + j : Nat) + 1 + 1 : Int) o1 o2)
    | none => ∃ x5' bra', iterW (fun ρ σ => evalT (callN FNS (d+1)) ρ (.x (.cst (.bool true))) σ) (fun ρ σ => exec (callN FNS (d+1)) INb ρ σ) n (.slf :: B :: v1 :: v2 :: v3 :: x5 :: rr) (mko t (P.length : Int) (t.length : Int) 0 bra ket o1 o2)
        = some (.exc 1, .slf :: B :: v1 :: v2 :: v3 :: x5' :: rr, mko t (t.length : Int) (t.length : Int) 0 bra' ket o1 o2) := by
  have g0 : glbs[0]? = some (.set false) := rfl
  have h6 : 5 < rr.length + 1 + 1 + 1 + 1 + 1 + 1 := by omega
  intro R
  induction R with
  | nil =>
    intro P n x5 bra ket ht hn
    obtain ⟨n, rfl⟩ : ∃ m, n = m + 1 := ⟨n - 1, by simp at hn; omega⟩
    have e : t.length = P.length := by simp [ht]
    have h1 : (P.length : Int) ≤ (P.length : Int) := by omega
    have hg := igo_0 d t (P.length : Int) (P.length : Int) 0 bra ket o1 o2 h1
    simp only [mko] at hg
    refine ⟨.int (P.length : Int), bra, ?_⟩
    rw [iterW_succ, e]
    unfold INb
    simp only [exec, evalX, evalXs, evalT, locV, mk, Stem.get, Stem.put, truthV, cmpV, retOf, binV, insetV, inlV, negV, minV, lenV, aatV, flat, setL, List.getElem?_cons_zero, List.getElem?_cons_succ, List.set_cons_zero, List.set_cons_succ, List.length_cons, List.length_nil, List.replicate, List.cons_append, List.nil_append, Nat.reduceAdd, Nat.reduceSub, Nat.reduceLT, Nat.reduceEqDiff, Option.bind_eq_bind, Option.bind_some, Option.map_some, decide_true, decide_false, ↓reduceIte, bne_self_eq_false, Bool.bne_true, Bool.bne_false, Bool.not_true, Bool.not_false, Bool.false_eq_true, mko, g0, h6, hg, h1, eq_self]
  | cons x R ih =>
    intro P n x5 bra ket ht hn
    obtain ⟨n, rfl⟩ : ∃ m, n = m + 1 := ⟨n - 1, by simp at hn; omega⟩
    have e : t.length = P.length + (R.length + 1) := by simp [ht]
    have h1 : ¬ ((t.length : Int) ≤ (P.length : Int)) := by omega
    have hx : idxV (.str t) (.int (P.length : Int)) = some (.str [x]) := by rw [ht]; exact idx_app _ _ _
    have hg := igo_1 d t (P.length : Int) (t.length : Int) 0 bra ket o1 o2 x h1 hx
    have hc : (P.length : Int) + 1 = (((P ++ [x]).length : Nat) : Int) := by simp
    have ih' := fun x5 bra ket => ih (P ++ [x]) n x5 bra ket (by rw [ht]; simp) (by simp at hn; omega)
    -- what a round that finds nothing does
    have cont : ∀ (x5' : V) (bra' : Int), iterW (fun ρ σ => evalT (callN FNS (d+1)) ρ (.x (.cst (.bool true))) σ) (fun ρ σ => exec (callN FNS (d+1)) INb ρ σ) (n+1) (.slf :: B :: v1 :: v2 :: v3 :: x5 :: rr) (mko t (P.length : Int) (t.length : Int) 0 bra ket o1 o2) = iterW (fun ρ σ => evalT (callN FNS (d+1)) ρ (.x (.cst (.bool true))) σ) (fun ρ σ => exec (callN FNS (d+1)) INb ρ σ) n (.slf :: B :: v1 :: v2 :: v3 :: x5' :: rr) (mko t (((P ++ [x]).length : Nat) : Int) (t.length : Int) 0 bra' ket o1 o2) →
        nx (x :: R) = (nx R).map (· + 1) →
        match nx (x :: R) with
        | some j => iterW (fun ρ σ => evalT (callN FNS (d+1)) ρ (.x (.cst (.bool true))) σ) (fun ρ σ => exec (callN FNS (d+1)) INb ρ σ) (n+1) (.slf :: B :: v1 :: v2 :: v3 :: x5 :: rr) (mko t (P.length : Int) (t.length : Int) 0 bra ket o1 o2)
            = some (.next, .slf :: B :: v1 :: v2 :: v3 :: .int ((P.length + j : Nat) : Int) :: rr, mko t ((P.length + j : Nat) : Int) (t.length : Int) 0 ((P.length + j : Nat) + 1 : Int) ((P.length + j : Nat) + 1 + 1 : Int) o1 o2)
        | none => ∃ x5' bra', iterW (fun ρ σ => evalT (callN FNS (d+1)) ρ (.x (.cst (.bool true))) σ) (fun ρ σ => exec (callN FNS (d+1)) INb ρ σ) (n+1) (.slf :: B :: v1 :: v2 :: v3 :: x5 :: rr) (mko t (P.length : Int) (t.length : Int) 0 bra ket o1 o2)
            = some (.exc 1, .slf :: B :: v1 :: v2 :: v3 :: x5' :: rr, mko t (t.length : Int) (t.length : Int) 0 bra' ket o1 o2) := by
      intro x5' bra' hE hN
      have ih'' := ih' x5' bra' ket
      rw [hN, hE]
      cases hj : nx R with
      | none => rw [hj] at ih''; exact ih''
      | some j =>
        rw [hj] at ih''
        simp only [Option.map_some]
        dsimp only at ih''
        rw [ih'']
        have e : (P ++ [x]).length + j = P.length + (j + 1) := by simp; omega
        rw [e]
    cases h3 : isV x
    · rw [h3, if_neg (by simp)] at hg
      refine cont (.int (P.length : Int)) bra ?_ ?_
      · rw [iterW_succ]
        simp only [mko] at hg
        unfold INb
        simp only [exec, evalX, evalXs, evalT, locV, mk, Stem.get, Stem.put, truthV, cmpV, retOf, binV, insetV, inlV, negV, minV, lenV, aatV, flat, setL, List.getElem?_cons_zero, List.getElem?_cons_succ, List.set_cons_zero, List.set_cons_succ, List.length_cons, List.length_nil, List.replicate, List.cons_append, List.nil_append, Nat.reduceAdd, Nat.reduceSub, Nat.reduceLT, Nat.reduceEqDiff, Option.bind_eq_bind, Option.bind_some, Option.map_some, decide_true, decide_false, ↓reduceIte, bne_self_eq_false, Bool.bne_true, Bool.bne_false, Bool.not_true, Bool.not_false, Bool.false_eq_true, mko, g0, h6, hg, h1, eq_self, hc]
      · cases R with
        | nil => rfl
        | cons y r => rw [nx_cons, if_neg (by simp [h3])]
    · rw [h3, if_pos rfl] at hg
      cases R with
      | nil =>
        have h2 : (P.length : Int) + 1 = (t.length : Int) := by simp at e; omega
        refine cont (.int (P.length : Int)) ((P.length : Int) + 1) ?_ rfl
        rw [iterW_succ]
        simp only [mko] at hg
        unfold INb
        simp only [exec, evalX, evalXs, evalT, locV, mk, Stem.get, Stem.put, truthV, cmpV, retOf, binV, insetV, inlV, negV, minV, lenV, aatV, flat, setL, List.getElem?_cons_zero, List.getElem?_cons_succ, List.set_cons_zero, List.set_cons_succ, List.length_cons, List.length_nil, List.replicate, List.cons_append, List.nil_append, Nat.reduceAdd, Nat.reduceSub, Nat.reduceLT, Nat.reduceEqDiff, Option.bind_eq_bind, Option.bind_some, Option.map_some, decide_true, decide_false, ↓reduceIte, bne_self_eq_false, Bool.bne_true, Bool.bne_false, Bool.not_true, Bool.not_false, Bool.false_eq_true, mko, g0, h6, hg, h1, eq_self, decide_eq_true h2]
        rw [hc]
      | cons y r =>
        have h2 : ¬ (P.length : Int) + 1 = (t.length : Int) := by simp at e; omega
        have hy : idxV (.str t) (.int ((P.length : Int) + 1)) = some (.str [y]) := by
          rw [hc, ht, show P ++ x :: y :: r = (P ++ [x]) ++ y :: r by simp]; exact idx_app _ _ _
        by_cases h4 : y = 121
        · have h5 : decide ([y] = [121]) = true := by simp [h4]
          have hN : nx (x :: y :: r) = some 0 := by rw [nx_cons, if_pos ⟨h3, h4⟩]
          rw [hN]
          dsimp only
          rw [iterW_succ]
          simp only [mko] at hg
          unfold INb
          simp only [exec, evalX, evalXs, evalT, locV, mk, Stem.get, Stem.put, truthV, cmpV, retOf, binV, insetV, inlV, negV, minV, lenV, aatV, flat, setL, List.getElem?_cons_zero, List.getElem?_cons_succ, List.set_cons_zero, List.set_cons_succ, List.length_cons, List.length_nil, List.replicate, List.cons_append, List.nil_append, Nat.reduceAdd, Nat.reduceSub, Nat.reduceLT, Nat.reduceEqDiff, Option.bind_eq_bind, Option.bind_some, Option.map_some, decide_true, decide_false, ↓reduceIte, bne_self_eq_false, Bool.bne_true, Bool.bne_false, Bool.not_true, Bool.not_false, Bool.false_eq_true, mko, g0, h6, hg, h1, eq_self, h2, hy, h5, Nat.add_zero]
        · have h5 : decide ([y] = [121]) = false := by simp [h4]
          refine cont (.int (P.length : Int)) ((P.length : Int) + 1) ?_ ?_
          · rw [iterW_succ]
            simp only [mko] at hg
            unfold INb
            simp only [exec, evalX, evalXs, evalT, locV, mk, Stem.get, Stem.put, truthV, cmpV, retOf, binV, insetV, inlV, negV, minV, lenV, aatV, flat, setL, List.getElem?_cons_zero, List.getElem?_cons_succ, List.set_cons_zero, List.set_cons_succ, List.length_cons, List.length_nil, List.replicate, List.cons_append, List.nil_append, Nat.reduceAdd, Nat.reduceSub, Nat.reduceLT, Nat.reduceEqDiff, Option.bind_eq_bind, Option.bind_some, Option.map_some, decide_true, decide_false, ↓reduceIte, bne_self_eq_false, Bool.bne_true, Bool.bne_false, Bool.not_true, Bool.not_false, Bool.false_eq_true, mko, g0, h6, hg, h1, eq_self, h2, hy, h5]
            rw [hc]
          · rw [nx_cons, if_neg (by simp [h4])]
end Mine.C
end

section
set_option Elab.async false
set_option maxRecDepth 100000
set_option linter.unusedVariables false
set_option linter.unusedSimpArgs false
namespace Mine.C
/-- the marks of a text whose first sign stands -/
def MK : Tx → Tx
  | [] => []
  | x :: r => x :: markTx [x] r
theorem markTx_head : ∀ (r : Tx) (x : Nat) (a b : Tx), markTx (x :: a) r = markTx (x :: b) r
  | [], _, _, _ => rfl
  | c :: r, x, a, b => by
    simp only [markTx, List.headD_cons, reduceCtorEq, false_or]
    congr 1
    exact markTx_head r _ _ _
theorem MK_cons (x y : Nat) (r : Tx) : MK (x :: y :: r) = x :: MK ((if y = 121 ∧ isV x = true then 89 else y) :: r) := by
  simp only [MK, markTx, List.headD_cons, reduceCtorEq, false_or]
  congr 1
  have : (if y = 121 ∧ vowelTx.contains [x] = true then 89 else y) = (if y = 121 ∧ isV x = true then 89 else y) := rfl
  rw [this, markTx_head _ _ _ []]
theorem MK_none : ∀ (R : Tx), nx R = none → MK R = R
  | [], _ => rfl
  | [x], _ => rfl
  | x :: y :: r, h => by
    rw [nx_cons] at h
    split at h
    · cases h
    · rename_i hn
      rw [Option.map_eq_none_iff] at h
      rw [MK_cons, if_neg (fun k => hn ⟨k.2, k.1⟩), MK_none (y :: r) h]
theorem MK_some : ∀ (R : Tx) (j : Nat), nx R = some j → ∃ A x B, R = A ++ x :: 121 :: B ∧ A.length = j ∧ isV x = true ∧ MK R = A ++ MK (x :: 89 :: B)
  | [], _, h => by cases h
  | [x], _, h => by cases h
  | x :: y :: r, j, h => by
    rw [nx_cons] at h
    split at h
    · rename_i hn
      cases h
      refine ⟨[], x, r, by rw [hn.2]; rfl, rfl, hn.1, ?_⟩
      rw [MK_cons, if_pos ⟨hn.2, hn.1⟩, MK_cons, if_neg (by simp)]
      rfl
    · rename_i hn
      cases hj : nx (y :: r) with
      | none => rw [hj] at h; cases h
      | some j' =>
        rw [hj] at h
        cases h
        obtain ⟨A, x', B, h1, h2, h3, h4⟩ := MK_some (y :: r) j' hj
        refine ⟨x :: A, x', B, by rw [h1]; rfl, by simp [h2], h3, ?_⟩
        rw [MK_cons, if_neg (fun k => hn ⟨k.2, k.1⟩), h4]
        rfl
theorem isV89 : isV 89 = false := by decide
theorem MK_len : ∀ R : Tx, (MK R).length = R.length := by
  have : ∀ (r a : Tx), (markTx a r).length = r.length := by
    intro r
    induction r with
    | nil => intro a; rfl
    | cons c r ih => intro a; simp [markTx, ih]
  intro R
  cases R with
  | nil => rfl
  | cons x r => simp [MK, this]
theorem out_x (d : Nat) (o1 o2 : Option V) (v1 v2 : V) (rr : List V) : ∀ (n : Nat) (R P t : Tx) (b : Bool) (v3 x5 : V) (bra ket : Int), t = P ++ R → R.count 121 < n → t.length ≤ 400 →
    ∃ b' v3' x5' c' bra' ket', (b' = false → b = false ∧ MK R = R) ∧ (b = true → b' = true) ∧
      iterW (fun ρ σ => evalT (callN FNS (d+2)) ρ (.x (.cst (.bool true))) σ) (fun ρ σ => exec (callN FNS (d+2)) OUb ρ σ) n (.slf :: .bool b :: v1 :: v2 :: v3 :: x5 :: rr) (mko t (P.length : Int) (t.length : Int) 0 bra ket o1 o2)
        = some (.next, .slf :: .bool b' :: v1 :: v2 :: v3' :: x5' :: rr, mko (P ++ MK R) c' ((P ++ MK R).length : Int) 0 bra' ket' o1 o2) := by
  have g0 : glbs[0]? = some (.set false) := rfl
  have h6 : 5 < rr.length + 1 + 1 + 1 + 1 + 1 + 1 := by omega
  have h5 : 4 < rr.length + 1 + 1 + 1 + 1 + 1 + 1 := by omega
  have h4 : 1 < rr.length + 1 + 1 + 1 + 1 + 1 + 1 := by omega
  intro n
  induction n with
  | zero => intro R P t b v3 x5 bra ket ht hn; omega
  | succ n ih =>
    intro R P t b v3 x5 bra ket ht hn hl
    have hR : R.length ≤ 400 := by rw [ht] at hl; simp at hl; omega
    have hin := in_x (d+1) t o1 o2 (.bool b) v1 v2 (.int (P.length : Int)) rr R P 1000 x5 bra ket ht (by omega)
    cases hj : nx R with
    | none =>
      rw [hj] at hin
      obtain ⟨x5', bra', hin⟩ := hin
      have w := (whl_of (callN FNS (d+2)) (.x (.cst (.bool true))) INb _ _).trans hin
      change exec (callN FNS (d+2)) INw _ _ = _ at w
      simp only [mko] at w
      refine ⟨b, .int (P.length : Int), x5', (P.length : Int), bra', ket, fun h => ⟨h, MK_none R hj⟩, fun h => h, ?_⟩
      rw [MK_none R hj, ← ht, iterW_succ]
      unfold OUb
      simp only [exec, evalX, evalXs, evalT, locV, mk, Stem.get, Stem.put, truthV, cmpV, retOf, binV, insetV, inlV, negV, minV, lenV, aatV, flat, setL, List.getElem?_cons_zero, List.getElem?_cons_succ, List.set_cons_zero, List.set_cons_succ, List.length_cons, List.length_nil, List.replicate, List.cons_append, List.nil_append, Nat.reduceAdd, Nat.reduceSub, Nat.reduceLT, Nat.reduceEqDiff, Option.bind_eq_bind, Option.bind_some, Option.map_some, decide_true, decide_false, ↓reduceIte, bne_self_eq_false, Bool.bne_true, Bool.bne_false, Bool.not_true, Bool.not_false, Bool.false_eq_true, mko, h5, w, eq_self]
    | some j =>
      rw [hj] at hin
      dsimp only at hin
      have w := (whl_of (callN FNS (d+2)) (.x (.cst (.bool true))) INb _ _).trans hin
      change exec (callN FNS (d+2)) INw _ _ = _ at w
      obtain ⟨A, x, B, k1, k2, k3, k4⟩ := MK_some R j hj
      have kt : t = (P ++ A ++ [x]) ++ 121 :: B := by rw [ht, k1]; simp
      have kl : ((P ++ A ++ [x]).length : Int) = ((P.length + j : Nat) : Int) + 1 := by simp [k2]; omega
      have hs := slice_1 d t (P ++ A ++ [x]) B 121 89 ((P.length + j : Nat) : Int) 0 o1 o2 kt (by omega)
      rw [kl] at hs
      have kt2 : (P ++ A ++ [x]) ++ 89 :: B = (P ++ A) ++ (x :: 89 :: B) := by simp
      have kl2 : ((P ++ A).length : Int) = ((P.length + j : Nat) : Int) := by simp [k2]
      have kl3 : t.length = ((P ++ A) ++ (x :: 89 :: B)).length := by rw [kt]; simp
      rw [kt2] at hs
      have hcnt : (x :: 89 :: B).count 121 < n := by
        rw [k1] at hn
        simp [List.count_cons, List.count_append] at hn ⊢
        omega
      obtain ⟨b', v3', x5', c', bra', ket', hb1, hb2, hR2⟩ := ih (x :: 89 :: B) (P ++ A) ((P ++ A) ++ (x :: 89 :: B)) true (.int (P.length : Int)) (.int ((P.length + j : Nat) : Int)) (((P.length + j : Nat) : Int) + 1) (((P.length + j : Nat) : Int) + 1 + 1) rfl hcnt (by omega)
      refine ⟨b', v3', x5', c', bra', ket', fun h => ?_, fun _ => hb2 rfl, ?_⟩
      · rw [hb2 rfl] at h; cases h
      · rw [k4, ← List.append_assoc, iterW_succ]
        rw [kl2, ← kl3] at hR2
        simp only [mko] at w hs
        refine Eq.trans ?_ hR2
        unfold OUb
        simp only [exec, evalX, evalXs, evalT, locV, mk, Stem.get, Stem.put, truthV, cmpV, retOf, binV, insetV, inlV, negV, minV, lenV, aatV, flat, setL, List.getElem?_cons_zero, List.getElem?_cons_succ, List.set_cons_zero, List.set_cons_succ, List.length_cons, List.length_nil, List.replicate, List.cons_append, List.nil_append, Nat.reduceAdd, Nat.reduceSub, Nat.reduceLT, Nat.reduceEqDiff, Option.bind_eq_bind, Option.bind_some, Option.map_some, decide_true, decide_false, ↓reduceIte, bne_self_eq_false, Bool.bne_true, Bool.bne_false, Bool.not_true, Bool.not_false, Bool.false_eq_true, mko, h5, h4, w, hs, eq_self]
end Mine.C
end

section
set_option Elab.async false
set_option maxRecDepth 100000
set_option linter.unusedVariables false
set_option linter.unusedSimpArgs false
namespace Mine.C
def un (x : Nat) : Nat := if x = 89 then 121 else x
def UMt (t : Tx) : Tx := t.map un
def I2b : S := (.seq (.asg 17 (.fld 0 .c)) (.seq (.tryx 2 (.seq (.setf 0 .bra (.fld 0 .c)) (.seq (.ife (.or (.x (.cmp .eq (.fld 0 .c) (.fld 0 .l))) (.or (.x (.cmp .ne (.idx (.fld 0 .cur) (.fld 0 .c)) (.cst (.str [89])))) .ff)) (.seq (.raise 2) .skip) .skip) (.seq (.augf 0 .c .add (.cst (.int 1))) (.seq (.setf 0 .ket (.fld 0 .c)) (.seq (.setf 0 .c (.loc 17)) (.seq .brk .skip))))))) (.seq (.setf 0 .c (.loc 17)) (.seq (.ife (.x (.cmp .ge (.fld 0 .c) (.fld 0 .l))) (.seq (.raise 1) .skip) .skip) (.seq (.augf 0 .c .add (.cst (.int 1))) .skip)))))
def I2w : S := .whl (.x (.cst (.bool true))) I2b
def O2b : S := (.seq (.asg 16 (.fld 0 .c)) (.seq (.tryx 1 (.seq I2w (.seq (.expr (.meth 8 0 (.cons (.cst (.str [121])) .nil))) (.seq .cont .skip)))) (.seq (.setf 0 .c (.loc 16)) (.seq .brk .skip))))
def O2w : S := .whl (.x (.cst (.bool true))) O2b
def UMs : S := .tryx 0 (.seq (.ife (.not (.x (.loc 1))) (.seq (.raise 0) .skip) .skip) (.seq O2w .skip))
theorem UMs_eq : UMs = (.tryx 0 (.seq (.ife (.not (.x (.loc 1))) (.seq (.raise 0) .skip) .skip) (.seq (.whl (.x (.cst (.bool true))) (.seq (.asg 16 (.fld 0 .c)) (.seq (.tryx 1 (.seq (.whl (.x (.cst (.bool true))) (.seq (.asg 17 (.fld 0 .c)) (.seq (.tryx 2 (.seq (.setf 0 .bra (.fld 0 .c)) (.seq (.ife (.or (.x (.cmp .eq (.fld 0 .c) (.fld 0 .l))) (.or (.x (.cmp .ne (.idx (.fld 0 .cur) (.fld 0 .c)) (.cst (.str [89])))) .ff)) (.seq (.raise 2) .skip) .skip) (.seq (.augf 0 .c .add (.cst (.int 1))) (.seq (.setf 0 .ket (.fld 0 .c)) (.seq (.setf 0 .c (.loc 17)) (.seq .brk .skip))))))) (.seq (.setf 0 .c (.loc 17)) (.seq (.ife (.x (.cmp .ge (.fld 0 .c) (.fld 0 .l))) (.seq (.raise 1) .skip) .skip) (.seq (.augf 0 .c .add (.cst (.int 1))) .skip)))))) (.seq (.expr (.meth 8 0 (.cons (.cst (.str [121])) .nil))) (.seq .cont .skip)))) (.seq (.setf 0 .c (.loc 16)) (.seq .brk .skip))))) .skip))) := rfl
section
variable (b : Bool) (a2 a3 a4 a5 a6 a7 a8 a9 a10 a11 a12 a13 a14 a15 : V)
theorem in2_x (Φ : Phi) (t : Tx) (o1 o2 : Option V) (x16 : V) : ∀ (R P : Tx) (n : Nat) (x17 : V) (bra ket : Int), t = P ++ R → R.length < n →
    match fi (fun x => x == 89) R with
    | some j => ∃ x17', iterW (fun ρ σ => evalT Φ ρ (.x (.cst (.bool true))) σ) (fun ρ σ => exec Φ I2b ρ σ) n [.slf, .bool b, a2, a3, a4, a5, a6, a7, a8, a9, a10, a11, a12, a13, a14, a15, x16, x17] (mko t (P.length : Int) (t.length : Int) 0 bra ket o1 o2)
        = some (.next, [.slf, .bool b, a2, a3, a4, a5, a6, a7, a8, a9, a10, a11, a12, a13, a14, a15, x16, x17'], mko t ((P.length + j : Nat) : Int) (t.length : Int) 0 ((P.length + j : Nat) : Int) ((P.length + j : Nat) + 1 : Int) o1 o2)
    | none => ∃ x17' bra', iterW (fun ρ σ => evalT Φ ρ (.x (.cst (.bool true))) σ) (fun ρ σ => exec Φ I2b ρ σ) n [.slf, .bool b, a2, a3, a4, a5, a6, a7, a8, a9, a10, a11, a12, a13, a14, a15, x16, x17] (mko t (P.length : Int) (t.length : Int) 0 bra ket o1 o2)
        = some (.exc 1, [.slf, .bool b, a2, a3, a4, a5, a6, a7, a8, a9, a10, a11, a12, a13, a14, a15, x16, x17'], mko t (t.length : Int) (t.length : Int) 0 bra' ket o1 o2) := by
  intro R
  induction R with
  | nil =>
    intro P n x17 bra ket ht hn
    obtain ⟨n, rfl⟩ : ∃ m, n = m + 1 := ⟨n - 1, by simp at hn; omega⟩
    have e : t.length = P.length := by simp [ht]
    have h1 : (P.length : Int) ≤ (P.length : Int) := by omega
    refine ⟨.int (P.length : Int), (P.length : Int), ?_⟩
    rw [iterW_succ, e]
    unfold I2b
    simp only [exec, evalX, evalXs, evalT, locV, mk, Stem.get, Stem.put, truthV, cmpV, retOf, binV, insetV, inlV, negV, minV, lenV, aatV, flat, setL, List.getElem?_cons_zero, List.getElem?_cons_succ, List.set_cons_zero, List.set_cons_succ, List.length_cons, List.length_nil, List.replicate, List.cons_append, List.nil_append, Nat.reduceAdd, Nat.reduceSub, Nat.reduceLT, Nat.reduceEqDiff, Option.bind_eq_bind, Option.bind_some, Option.map_some, decide_true, decide_false, ↓reduceIte, bne_self_eq_false, Bool.bne_true, Bool.bne_false, Bool.not_true, Bool.not_false, Bool.false_eq_true, mko, h1, eq_self]
  | cons x R ih =>
    intro P n x17 bra ket ht hn
    obtain ⟨n, rfl⟩ : ∃ m, n = m + 1 := ⟨n - 1, by simp at hn; omega⟩
    have e : t.length = P.length + (R.length + 1) := by simp [ht]
    have h1 : ¬ ((t.length : Int) ≤ (P.length : Int)) := by omega
    have h2 : ¬ ((P.length : Int) = (t.length : Int)) := by omega
    have hx : idxV (.str t) (.int (P.length : Int)) = some (.str [x]) := by rw [ht]; exact idx_app _ _ _
    have hc : (P.length : Int) + 1 = (((P ++ [x]).length : Nat) : Int) := by simp
    by_cases h3 : x = 89
    · have h4 : decide ([x] = [89]) = true := by simp [h3]
      have hf : fi (fun x => x == 89) (x :: R) = some 0 := by unfold fi; rw [if_pos (by simp [h3])]
      rw [hf]
      refine ⟨.int (P.length : Int), ?_⟩
      rw [iterW_succ]
      unfold I2b
      simp only [exec, evalX, evalXs, evalT, locV, mk, Stem.get, Stem.put, truthV, cmpV, retOf, binV, insetV, inlV, negV, minV, lenV, aatV, flat, setL, List.getElem?_cons_zero, List.getElem?_cons_succ, List.set_cons_zero, List.set_cons_succ, List.length_cons, List.length_nil, List.replicate, List.cons_append, List.nil_append, Nat.reduceAdd, Nat.reduceSub, Nat.reduceLT, Nat.reduceEqDiff, Option.bind_eq_bind, Option.bind_some, Option.map_some, decide_true, decide_false, ↓reduceIte, bne_self_eq_false, Bool.bne_true, Bool.bne_false, Bool.not_true, Bool.not_false, Bool.false_eq_true, mko, h1, h2, hx, h4, eq_self, Nat.add_zero]
    · have h4 : decide ([x] = [89]) = false := by simp [h3]
      have hf : fi (fun x => x == 89) (x :: R) = (fi (fun x => x == 89) R).map (· + 1) := by rw [fi, if_neg (by simp [h3])]
      rw [hf]
      have ih' := ih (P ++ [x]) n (.int (P.length : Int)) (P.length : Int) ket (by rw [ht]; simp) (by simp at hn; omega)
      cases hj : fi (fun x => x == 89) R with
      | none =>
        rw [hj] at ih'
        obtain ⟨x17', bra', ih'⟩ := ih'
        refine ⟨x17', bra', ?_⟩
        refine Eq.trans ?_ ih'
        rw [iterW_succ]
        unfold I2b
        simp only [exec, evalX, evalXs, evalT, locV, mk, Stem.get, Stem.put, truthV, cmpV, retOf, binV, insetV, inlV, negV, minV, lenV, aatV, flat, setL, List.getElem?_cons_zero, List.getElem?_cons_succ, List.set_cons_zero, List.set_cons_succ, List.length_cons, List.length_nil, List.replicate, List.cons_append, List.nil_append, Nat.reduceAdd, Nat.reduceSub, Nat.reduceLT, Nat.reduceEqDiff, Option.bind_eq_bind, Option.bind_some, Option.map_some, decide_true, decide_false, ↓reduceIte, bne_self_eq_false, Bool.bne_true, Bool.bne_false, Bool.not_true, Bool.not_false, Bool.false_eq_true, mko, h1, h2, hx, h4, eq_self, hc]
      | some j =>
        rw [hj] at ih'
        obtain ⟨x17', ih'⟩ := ih'
        refine ⟨x17', ?_⟩
        have e2 : (P ++ [x]).length + j = P.length + (j + 1) := by simp; omega
        rw [e2] at ih'
        refine Eq.trans ?_ ih'
        rw [iterW_succ]
        unfold I2b
        simp only [exec, evalX, evalXs, evalT, locV, mk, Stem.get, Stem.put, truthV, cmpV, retOf, binV, insetV, inlV, negV, minV, lenV, aatV, flat, setL, List.getElem?_cons_zero, List.getElem?_cons_succ, List.set_cons_zero, List.set_cons_succ, List.length_cons, List.length_nil, List.replicate, List.cons_append, List.nil_append, Nat.reduceAdd, Nat.reduceSub, Nat.reduceLT, Nat.reduceEqDiff, Option.bind_eq_bind, Option.bind_some, Option.map_some, decide_true, decide_false, ↓reduceIte, bne_self_eq_false, Bool.bne_true, Bool.bne_false, Bool.not_true, Bool.not_false, Bool.false_eq_true, mko, h1, h2, hx, h4, eq_self, hc]
theorem fi89 : ∀ (R : Tx), match fi (fun x => x == 89) R with
    | some j => ∃ A B, R = A ++ 89 :: B ∧ A.length = j ∧ UMt R = A ++ UMt (121 :: B)
    | none => UMt R = R
  | [] => rfl
  | x :: R => by
    have ih := fi89 R
    by_cases h : x = 89
    · have hf : fi (fun x => x == 89) (x :: R) = some 0 := by unfold fi; rw [if_pos (by simp [h])]
      rw [hf]
      refine ⟨[], R, by rw [h]; rfl, rfl, ?_⟩
      rw [h]
      rfl
    · have hf : fi (fun x => x == 89) (x :: R) = (fi (fun x => x == 89) R).map (· + 1) := by rw [fi, if_neg (by simp [h])]
      have hu : un x = x := by unfold un; rw [if_neg h]
      rw [hf]
      cases hj : fi (fun x => x == 89) R with
      | none =>
        rw [hj] at ih
        show UMt (x :: R) = x :: R
        have ih : UMt R = R := ih
        unfold UMt at ih ⊢
        rw [List.map_cons, hu, ih]
      | some j =>
        rw [hj] at ih
        obtain ⟨A, B, h1, h2, h3⟩ := ih
        refine ⟨x :: A, B, by rw [h1]; rfl, by simp [h2], ?_⟩
        unfold UMt at h3 ⊢
        rw [List.map_cons, hu, h3]; rfl
theorem out2_x (d : Nat) (o1 o2 : Option V) : ∀ (n : Nat) (R P t : Tx) (x16 x17 : V) (bra ket : Int), t = P ++ R → R.count 89 < n → t.length ≤ 400 →
    ∃ x16' x17' c' bra' ket',
      iterW (fun ρ σ => evalT (callN FNS (d+2)) ρ (.x (.cst (.bool true))) σ) (fun ρ σ => exec (callN FNS (d+2)) O2b ρ σ) n [.slf, .bool b, a2, a3, a4, a5, a6, a7, a8, a9, a10, a11, a12, a13, a14, a15, x16, x17] (mko t (P.length : Int) (t.length : Int) 0 bra ket o1 o2)
        = some (.next, [.slf, .bool b, a2, a3, a4, a5, a6, a7, a8, a9, a10, a11, a12, a13, a14, a15, x16', x17'], mko (P ++ UMt R) c' ((P ++ UMt R).length : Int) 0 bra' ket' o1 o2) := by
  intro n
  induction n with
  | zero => intro R P t x16 x17 bra ket ht hn; omega
  | succ n ih =>
    intro R P t x16 x17 bra ket ht hn hl
    have hR : R.length ≤ 400 := by rw [ht] at hl; simp at hl; omega
    have hin := in2_x b a2 a3 a4 a5 a6 a7 a8 a9 a10 a11 a12 a13 a14 a15 (callN FNS (d+2)) t o1 o2 (.int (P.length : Int)) R P 1000 x17 bra ket ht (by omega)
    have hfi := fi89 R
    cases hj : fi (fun x => x == 89) R with
    | none =>
      rw [hj] at hin hfi
      obtain ⟨x17', bra', hin⟩ := hin
      have w := (whl_of (callN FNS (d+2)) (.x (.cst (.bool true))) I2b _ _).trans hin
      change exec (callN FNS (d+2)) I2w _ _ = _ at w
      simp only [mko] at w
      refine ⟨.int (P.length : Int), x17', (P.length : Int), bra', ket, ?_⟩
      rw [show UMt R = R from hfi, ← ht, iterW_succ]
      unfold O2b
      simp only [exec, evalX, evalXs, evalT, locV, mk, Stem.get, Stem.put, truthV, cmpV, retOf, binV, insetV, inlV, negV, minV, lenV, aatV, flat, setL, List.getElem?_cons_zero, List.getElem?_cons_succ, List.set_cons_zero, List.set_cons_succ, List.length_cons, List.length_nil, List.replicate, List.cons_append, List.nil_append, Nat.reduceAdd, Nat.reduceSub, Nat.reduceLT, Nat.reduceEqDiff, Option.bind_eq_bind, Option.bind_some, Option.map_some, decide_true, decide_false, ↓reduceIte, bne_self_eq_false, Bool.bne_true, Bool.bne_false, Bool.not_true, Bool.not_false, Bool.false_eq_true, mko, w, eq_self]
    | some j =>
      rw [hj] at hin hfi
      obtain ⟨x17', hin⟩ := hin
      have w := (whl_of (callN FNS (d+2)) (.x (.cst (.bool true))) I2b _ _).trans hin
      change exec (callN FNS (d+2)) I2w _ _ = _ at w
      obtain ⟨A, B, k1, k2, k4⟩ := hfi
      have kt : t = (P ++ A) ++ 89 :: B := by rw [ht, k1]; simp
      have kl : ((P ++ A).length : Int) = ((P.length + j : Nat) : Int) := by simp [k2]
      have hs := slice_1 d t (P ++ A) B 89 121 ((P.length + j : Nat) : Int) 0 o1 o2 kt (by omega)
      rw [kl] at hs
      have kl3 : t.length = ((P ++ A) ++ (121 :: B)).length := by rw [kt]; simp
      have hcnt : (121 :: B).count 89 < n := by
        rw [k1] at hn
        simp [List.count_cons, List.count_append] at hn ⊢
        omega
      obtain ⟨x16', x17'', c', bra', ket', hR2⟩ := ih (121 :: B) (P ++ A) ((P ++ A) ++ (121 :: B)) (.int (P.length : Int)) x17' ((P.length + j : Nat) : Int) (((P.length + j : Nat) : Int) + 1) rfl hcnt (by omega)
      refine ⟨x16', x17'', c', bra', ket', ?_⟩
      rw [k4, ← List.append_assoc, iterW_succ]
      rw [kl, ← kl3] at hR2
      simp only [mko] at w hs
      refine Eq.trans ?_ hR2
      unfold O2b
      simp only [exec, evalX, evalXs, evalT, locV, mk, Stem.get, Stem.put, truthV, cmpV, retOf, binV, insetV, inlV, negV, minV, lenV, aatV, flat, setL, List.getElem?_cons_zero, List.getElem?_cons_succ, List.set_cons_zero, List.set_cons_succ, List.length_cons, List.length_nil, List.replicate, List.cons_append, List.nil_append, Nat.reduceAdd, Nat.reduceSub, Nat.reduceLT, Nat.reduceEqDiff, Option.bind_eq_bind, Option.bind_some, Option.map_some, decide_true, decide_false, ↓reduceIte, bne_self_eq_false, Bool.bne_true, Bool.bne_false, Bool.not_true, Bool.not_false, Bool.false_eq_true, mko, w, hs, eq_self]
/-- the marks taken back -/
theorem um_x (d : Nat) (t : Tx) (o1 o2 : Option V) (x16 x17 : V) (bra ket : Int) (hl : t.length ≤ 400) :
    ∃ x16' x17' c' bra' ket', exec (callN FNS (d+2)) UMs [.slf, .bool b, a2, a3, a4, a5, a6, a7, a8, a9, a10, a11, a12, a13, a14, a15, x16, x17] (mko t 0 (t.length : Int) 0 bra ket o1 o2)
        = some (.next, [.slf, .bool b, a2, a3, a4, a5, a6, a7, a8, a9, a10, a11, a12, a13, a14, a15, x16', x17'], mko (if b then UMt t else t) c' ((if b then UMt t else t).length : Int) 0 bra' ket' o1 o2) := by
  cases b
  · refine ⟨x16, x17, 0, bra, ket, ?_⟩
    unfold UMs
    simp only [exec, evalX, evalXs, evalT, locV, mk, Stem.get, Stem.put, truthV, cmpV, retOf, binV, insetV, inlV, negV, minV, lenV, aatV, flat, setL, List.getElem?_cons_zero, List.getElem?_cons_succ, List.set_cons_zero, List.set_cons_succ, List.length_cons, List.length_nil, List.replicate, List.cons_append, List.nil_append, Nat.reduceAdd, Nat.reduceSub, Nat.reduceLT, Nat.reduceEqDiff, Option.bind_eq_bind, Option.bind_some, Option.map_some, decide_true, decide_false, ↓reduceIte, bne_self_eq_false, Bool.bne_true, Bool.bne_false, Bool.not_true, Bool.not_false, Bool.false_eq_true, mko, eq_self]
  · obtain ⟨x16', x17', c', bra', ket', h⟩ := out2_x true a2 a3 a4 a5 a6 a7 a8 a9 a10 a11 a12 a13 a14 a15 d o1 o2 1000 t [] t x16 x17 bra ket rfl (by have := List.count_le_length (a := 89) (l := t); omega) hl
    have w := (whl_of (callN FNS (d+2)) (.x (.cst (.bool true))) O2b _ _).trans h
    change exec (callN FNS (d+2)) O2w _ _ = _ at w
    simp only [mko, List.length_nil, List.nil_append, Int.natCast_zero] at w
    refine ⟨x16', x17', c', bra', ket', ?_⟩
    unfold UMs
    simp only [exec, evalX, evalXs, evalT, locV, mk, Stem.get, Stem.put, truthV, cmpV, retOf, binV, insetV, inlV, negV, minV, lenV, aatV, flat, setL, List.getElem?_cons_zero, List.getElem?_cons_succ, List.set_cons_zero, List.set_cons_succ, List.length_cons, List.length_nil, List.replicate, List.cons_append, List.nil_append, Nat.reduceAdd, Nat.reduceSub, Nat.reduceLT, Nat.reduceEqDiff, Option.bind_eq_bind, Option.bind_some, Option.map_some, decide_true, decide_false, ↓reduceIte, bne_self_eq_false, Bool.bne_true, Bool.bne_false, Bool.not_true, Bool.not_false, Bool.false_eq_true, mko, w]
end
/-- behind the first vowel with a non-vowel behind it -/
def vc : Tx → Option Nat
  | x :: y :: r => if isV x = true ∧ isV y = false then some 2 else (vc (y :: r)).map (· + 1)
  | _ => none
theorem vc_cons (x y : Nat) (r : Tx) : vc (x :: y :: r) = if isV x = true ∧ isV y = false then some 2 else (vc (y :: r)).map (· + 1) := by rw [vc]
theorem fi_cons (p : Nat → Bool) (x : Nat) (r : Tx) : fi p (x :: r) = if p x then some 0 else (fi p r).map (· + 1) := by rw [fi]
theorem vc_fi : ∀ R : Tx, vc R = match fi isV R with
    | none => none
    | some j => match fi (fun x => !isV x) (R.drop (j + 1)) with
      | none => none
      | some k => some (j + 1 + k + 1)
  | [] => rfl
  | [x] => by
    rw [fi_cons]
    cases h : isV x
    · rfl
    · rfl
  | x :: y :: r => by
    have ih := vc_fi (y :: r)
    rw [vc_cons, fi_cons]
    cases h : isV x
    · rw [if_neg (by simp), ih]
      simp only [Bool.false_eq_true, ↓reduceIte]
      cases fi isV (y :: r) with
      | none => rfl
      | some j =>
        simp only [Option.map_some, List.drop_succ_cons]
        cases fi (fun x => !isV x) (r.drop j) with
        | none => rfl
        | some k => simp only [Option.map_some]; congr 1; omega
    · rw [fi_cons] at ih
      simp only [↓reduceIte, true_and, Nat.zero_add, List.drop_succ_cons, List.drop_zero]
      rw [fi_cons]
      cases h2 : isV y
      · simp
      · rw [h2] at ih
        simp only [↓reduceIte, Nat.zero_add, List.drop_succ_cons, List.drop_zero] at ih
        rw [ih]
        simp only [Bool.not_true, Bool.false_eq_true, ↓reduceIte, Bool.true_eq_false, if_false]
        cases fi (fun x => !isV x) r with
        | none => rfl
        | some k => simp only [Option.map_some]; congr 1 <;> omega
theorem vc_le : ∀ (R : Tx) (k : Nat), vc R = some k → 2 ≤ k ∧ k ≤ R.length
  | [], k, h => by cases h
  | [x], k, h => by cases h
  | x :: y :: r, k, h => by
    rw [vc_cons] at h
    split at h
    · cases h; simp
    · cases hj : vc (y :: r) with
      | none => rw [hj] at h; cases h
      | some j => rw [hj] at h; cases h; have := vc_le _ _ hj; simp at this ⊢; omega
def R1 (t : Tx) : Nat := (vc t).getD t.length
def R2 (t : Tx) : Nat := ((vc (t.drop (R1 t))).map (R1 t + ·)).getD t.length
def RGs : S := (.tryx 0 (.seq (.ife (.not (.x (.meth 3 0 (.cons (.glb 0) .nil)))) (.seq (.raise 0) .skip) .skip) (.seq (.augf 0 .c .add (.cst (.int 1))) (.seq (.ife (.not (.x (.meth 1 0 (.cons (.glb 0) .nil)))) (.seq (.raise 0) .skip) .skip) (.seq (.augf 0 .c .add (.cst (.int 1))) (.seq (.setf 0 .p1 (.fld 0 .c)) (.seq (.ife (.not (.x (.meth 3 0 (.cons (.glb 0) .nil)))) (.seq (.raise 0) .skip) .skip) (.seq (.augf 0 .c .add (.cst (.int 1))) (.seq (.ife (.not (.x (.meth 1 0 (.cons (.glb 0) .nil)))) (.seq (.raise 0) .skip) .skip) (.seq (.augf 0 .c .add (.cst (.int 1))) (.seq (.setf 0 .p2 (.fld 0 .c)) .skip)))))))))))
end Mine.C
end

section
set_option Elab.async false
set_option maxRecDepth 100000
set_option linter.unusedVariables false
set_option linter.unusedSimpArgs false
namespace Mine.C
theorem fi_lt (p : Nat → Bool) : ∀ (R : Tx) (j : Nat), fi p R = some j → j < R.length
  | [], j, h => by cases h
  | x :: R, j, h => by
    rw [fi_cons] at h
    split at h
    · cases h; simp
    · cases hj : fi p R with
      | none => rw [hj] at h; cases h
      | some k => rw [hj] at h; cases h; have := fi_lt p R k hj; simp; omega
theorem gog_q (d : Nat) (t : Tx) (q : Nat) (hq : q ≤ t.length) (lb bra ket p1 p2 : Int) (hn : t.length ≤ 400) : callN FNS (d+1) 3 [.slf, .set false] (mk t (q : Int) (t.length : Int) lb bra ket p1 p2) = match fi isV (t.drop q) with
      | some j => some (.bool true, mk t ((q + j : Nat) : Int) (t.length : Int) lb bra ket p1 p2)
      | none => some (.bool false, mk t (t.length : Int) (t.length : Int) lb bra ket p1 p2) := by
  have h := gog d t (t.take q) (t.drop q) lb bra ket p1 p2 (by simp) (by simp; omega)
  rw [List.length_take, Nat.min_eq_left hq] at h
  exact h
theorem gig_q (d : Nat) (t : Tx) (q : Nat) (hq : q ≤ t.length) (lb bra ket p1 p2 : Int) (hn : t.length ≤ 400) : callN FNS (d+1) 1 [.slf, .set false] (mk t (q : Int) (t.length : Int) lb bra ket p1 p2) = match fi (fun x => !isV x) (t.drop q) with
      | some j => some (.bool true, mk t ((q + j : Nat) : Int) (t.length : Int) lb bra ket p1 p2)
      | none => some (.bool false, mk t (t.length : Int) (t.length : Int) lb bra ket p1 p2) := by
  have h := gig d t (t.take q) (t.drop q) lb bra ket p1 p2 (by simp) (by simp; omega)
  rw [List.length_take, Nat.min_eq_left hq] at h
  exact h
theorem rg_x (d : Nat) (ρ : List V) (h0 : locV ρ 0 = some .slf) (t : Tx) (bra ket : Int) (hn : t.length ≤ 400) :
    ∃ c', exec (callN FNS (d+1)) RGs ρ (mk t 0 (t.length : Int) 0 bra ket (t.length : Int) (t.length : Int)) = some (.next, ρ, mk t c' (t.length : Int) 0 bra ket (R1 t : Int) (R2 t : Int)) := by
  have g0 : glbs[0]? = some (.set false) := rfl
  have k1 := gog_q d t 0 (by omega) 0 bra ket t.length t.length hn
  rw [List.drop_zero] at k1
  have hv := vc_fi t
  have hvl : vc (t.drop t.length) = none := by rw [List.drop_length]; rfl
  cases e1 : fi isV t with
  | none =>
    rw [e1] at k1 hv
    have hR1 : R1 t = t.length := by unfold R1; rw [hv]; rfl
    have hR2 : R2 t = t.length := by unfold R2; rw [hR1, hvl]; rfl
    rw [hR1, hR2]
    simp only [mk, Int.natCast_zero] at k1
    refine ⟨t.length, ?_⟩
    unfold RGs
    simp only [exec, evalX, evalXs, evalT, mk, Stem.get, Stem.put, truthV, cmpV, retOf, binV, insetV, inlV, negV, minV, lenV, aatV, flat, List.getElem?_cons_zero, List.getElem?_cons_succ, List.set_cons_zero, List.set_cons_succ, List.length_cons, List.length_nil, List.replicate, List.cons_append, List.nil_append, Nat.reduceAdd, Nat.reduceSub, Nat.reduceLT, Nat.reduceEqDiff, Option.bind_eq_bind, Option.bind_some, Option.map_some, decide_true, decide_false, ↓reduceIte, bne_self_eq_false, Bool.bne_true, Bool.bne_false, Bool.not_true, Bool.not_false, Bool.false_eq_true, h0, g0, k1, eq_self]
  | some j =>
    rw [e1] at k1 hv
    have l1 := fi_lt _ _ _ e1
    have k2 := gig_q d t (j + 1) (by omega) 0 bra ket t.length t.length hn
    have c1 : ((0 + j : Nat) : Int) + 1 = ((j + 1 : Nat) : Int) := by omega
    cases e2 : fi (fun x => !isV x) (t.drop (j + 1)) with
    | none =>
      simp only [e2] at k2 hv
      have hR1 : R1 t = t.length := by unfold R1; rw [hv]; rfl
      have hR2 : R2 t = t.length := by unfold R2; rw [hR1, hvl]; rfl
      rw [hR1, hR2]
      simp only [mk, Int.natCast_zero] at k1 k2
      refine ⟨t.length, ?_⟩
      unfold RGs
      simp only [exec, evalX, evalXs, evalT, mk, Stem.get, Stem.put, truthV, cmpV, retOf, binV, insetV, inlV, negV, minV, lenV, aatV, flat, List.getElem?_cons_zero, List.getElem?_cons_succ, List.set_cons_zero, List.set_cons_succ, List.length_cons, List.length_nil, List.replicate, List.cons_append, List.nil_append, Nat.reduceAdd, Nat.reduceSub, Nat.reduceLT, Nat.reduceEqDiff, Option.bind_eq_bind, Option.bind_some, Option.map_some, decide_true, decide_false, ↓reduceIte, bne_self_eq_false, Bool.bne_true, Bool.bne_false, Bool.not_true, Bool.not_false, Bool.false_eq_true, h0, g0, k1, c1, k2, eq_self]
    | some k =>
      simp only [e2] at k2 hv
      have l2 := fi_lt _ _ _ e2
      rw [List.length_drop] at l2
      have hR1 : R1 t = j + 1 + k + 1 := by unfold R1; rw [hv]; rfl
      have c2 : ((j + 1 + k : Nat) : Int) + 1 = ((j + 1 + k + 1 : Nat) : Int) := by omega
      have k3 := gog_q d t (j + 1 + k + 1) (by omega) 0 bra ket ((j + 1 + k + 1 : Nat) : Int) t.length hn
      have hv2 := vc_fi (t.drop (j + 1 + k + 1))
      cases e3 : fi isV (t.drop (j + 1 + k + 1)) with
      | none =>
        rw [e3] at k3 hv2
        have hR2 : R2 t = t.length := by unfold R2; rw [hR1, hv2]; rfl
        rw [hR1, hR2]
        simp only [mk, Int.natCast_zero] at k1 k2 k3
        refine ⟨t.length, ?_⟩
        unfold RGs
        simp only [exec, evalX, evalXs, evalT, mk, Stem.get, Stem.put, truthV, cmpV, retOf, binV, insetV, inlV, negV, minV, lenV, aatV, flat, List.getElem?_cons_zero, List.getElem?_cons_succ, List.set_cons_zero, List.set_cons_succ, List.length_cons, List.length_nil, List.replicate, List.cons_append, List.nil_append, Nat.reduceAdd, Nat.reduceSub, Nat.reduceLT, Nat.reduceEqDiff, Option.bind_eq_bind, Option.bind_some, Option.map_some, decide_true, decide_false, ↓reduceIte, bne_self_eq_false, Bool.bne_true, Bool.bne_false, Bool.not_true, Bool.not_false, Bool.false_eq_true, h0, g0, k1, c1, k2, c2, k3, eq_self]
      | some j2 =>
        rw [e3] at k3 hv2
        have l3 := fi_lt _ _ _ e3
        rw [List.length_drop] at l3
        have c3 : ((j + 1 + k + 1 + j2 : Nat) : Int) + 1 = ((j + 1 + k + 1 + j2 + 1 : Nat) : Int) := by omega
        have k4 := gig_q d t (j + 1 + k + 1 + j2 + 1) (by omega) 0 bra ket ((j + 1 + k + 1 : Nat) : Int) t.length hn
        have ed : (t.drop (j + 1 + k + 1)).drop (j2 + 1) = t.drop (j + 1 + k + 1 + j2 + 1) := by rw [List.drop_drop]; congr 1
        simp only [ed] at hv2
        cases e4 : fi (fun x => !isV x) (t.drop (j + 1 + k + 1 + j2 + 1)) with
        | none =>
          simp only [e4] at k4 hv2
          have hR2 : R2 t = t.length := by unfold R2; rw [hR1, hv2]; rfl
          rw [hR1, hR2]
          simp only [mk, Int.natCast_zero] at k1 k2 k3 k4
          refine ⟨t.length, ?_⟩
          unfold RGs
          simp only [exec, evalX, evalXs, evalT, mk, Stem.get, Stem.put, truthV, cmpV, retOf, binV, insetV, inlV, negV, minV, lenV, aatV, flat, List.getElem?_cons_zero, List.getElem?_cons_succ, List.set_cons_zero, List.set_cons_succ, List.length_cons, List.length_nil, List.replicate, List.cons_append, List.nil_append, Nat.reduceAdd, Nat.reduceSub, Nat.reduceLT, Nat.reduceEqDiff, Option.bind_eq_bind, Option.bind_some, Option.map_some, decide_true, decide_false, ↓reduceIte, bne_self_eq_false, Bool.bne_true, Bool.bne_false, Bool.not_true, Bool.not_false, Bool.false_eq_true, h0, g0, k1, c1, k2, c2, k3, c3, k4, eq_self]
        | some k2' =>
          simp only [e4] at k4 hv2
          have hR2 : R2 t = j + 1 + k + 1 + j2 + 1 + k2' + 1 := by unfold R2; rw [hR1, hv2]; simp; omega
          rw [hR1, hR2]
          have c4 : ((j + 1 + k + 1 + j2 + 1 + k2' : Nat) : Int) + 1 = ((j + 1 + k + 1 + j2 + 1 + k2' + 1 : Nat) : Int) := by omega
          simp only [mk, Int.natCast_zero] at k1 k2 k3 k4
          refine ⟨((j + 1 + k + 1 + j2 + 1 + k2' + 1 : Nat) : Int), ?_⟩
          unfold RGs
          simp only [exec, evalX, evalXs, evalT, mk, Stem.get, Stem.put, truthV, cmpV, retOf, binV, insetV, inlV, negV, minV, lenV, aatV, flat, List.getElem?_cons_zero, List.getElem?_cons_succ, List.set_cons_zero, List.set_cons_succ, List.length_cons, List.length_nil, List.replicate, List.cons_append, List.nil_append, Nat.reduceAdd, Nat.reduceSub, Nat.reduceLT, Nat.reduceEqDiff, Option.bind_eq_bind, Option.bind_some, Option.map_some, decide_true, decide_false, ↓reduceIte, bne_self_eq_false, Bool.bne_true, Bool.bne_false, Bool.not_true, Bool.not_false, Bool.false_eq_true, h0, g0, k1, c1, k2, c2, k3, c3, k4, c4, eq_self]
theorem stage (Φ : Phi) (i f : Nat) (ρ : List V) (REST : S) (m m' : Tx) (v : V) (c br ke br0 ke0 p1 p2 : Int) (h0 : locV ρ 0 = some .slf) (hi : 0 < i) (hi2 : i < ρ.length)
    (hcall : Φ f [.slf] (mk m m.length m.length 0 br0 ke0 p1 p2) = some (v, mk m' c m'.length 0 br ke p1 p2)) :
    exec Φ (.seq (.asg i (.bin .sub (.fld 0 .l) (.fld 0 .c))) (.seq (.expr (.meth f 0 .nil)) (.seq (.setf 0 .c (.bin .sub (.fld 0 .l) (.loc i))) REST))) ρ (mk m m.length m.length 0 br0 ke0 p1 p2)
      = exec Φ REST (ρ.set i (.int ((m.length : Int) - m.length))) (mk m' m'.length m'.length 0 br ke p1 p2) := by
  have h1 : locV (ρ.set i (.int ((m.length : Int) - m.length))) 0 = some .slf := by
    unfold locV at h0 ⊢
    rw [List.getElem?_set_ne (by omega)]
    exact h0
  have h2 : locV (ρ.set i (.int ((m.length : Int) - m.length))) i = some (.int ((m.length : Int) - m.length)) := by
    unfold locV
    rw [List.getElem?_set_self hi2]
  have h3 : setL ρ i (.int ((m.length : Int) - m.length)) = some (ρ.set i (.int ((m.length : Int) - m.length))) := by
    unfold setL; rw [if_pos hi2]
  have e : (m'.length : Int) - ((m.length : Int) - m.length) = (m'.length : Int) := by omega
  simp only [mk] at hcall
  simp only [exec, evalX, evalXs, evalT, mk, Stem.get, Stem.put, truthV, cmpV, retOf, binV, insetV, inlV, negV, minV, lenV, aatV, flat, List.getElem?_cons_zero, List.getElem?_cons_succ, List.set_cons_zero, List.set_cons_succ, List.length_cons, List.length_nil, List.replicate, List.cons_append, List.nil_append, Nat.reduceAdd, Nat.reduceSub, Nat.reduceLT, Nat.reduceEqDiff, Option.bind_eq_bind, Option.bind_some, Option.map_some, decide_true, decide_false, ↓reduceIte, bne_self_eq_false, Bool.bne_true, Bool.bne_false, Bool.not_true, Bool.not_false, Bool.false_eq_true, h0, h1, h2, h3, hcall, e]
def M1s : S := (.tryx 0 (.seq (.setf 0 .bra (.fld 0 .c)) (.seq (.ife (.or (.x (.cmp .eq (.fld 0 .c) (.fld 0 .l))) (.or (.x (.cmp .ne (.idx (.fld 0 .cur) (.fld 0 .c)) (.cst (.str [121])))) .ff)) (.seq (.raise 0) .skip) .skip) (.seq (.augf 0 .c .add (.cst (.int 1))) (.seq (.setf 0 .ket (.fld 0 .c)) (.seq (.expr (.meth 8 0 (.cons (.cst (.str [89])) .nil))) (.seq (.asg 1 (.cst (.bool true))) .skip)))))))
def M2s : S := .tryx 0 (.seq OUw .skip)
def BR : S := (.seq (.asg 7 (.bin .sub (.fld 0 .l) (.fld 0 .c))) (.seq (.expr (.meth 18 0 .nil)) (.seq (.setf 0 .c (.bin .sub (.fld 0 .l) (.loc 7))) (.seq (.asg 8 (.bin .sub (.fld 0 .l) (.fld 0 .c))) (.seq (.expr (.meth 19 0 .nil)) (.seq (.setf 0 .c (.bin .sub (.fld 0 .l) (.loc 8))) (.seq (.asg 9 (.bin .sub (.fld 0 .l) (.fld 0 .c))) (.seq (.expr (.meth 20 0 .nil)) (.seq (.setf 0 .c (.bin .sub (.fld 0 .l) (.loc 9))) (.seq (.asg 10 (.bin .sub (.fld 0 .l) (.fld 0 .c))) (.seq (.expr (.meth 21 0 .nil)) (.seq (.setf 0 .c (.bin .sub (.fld 0 .l) (.loc 10))) (.seq (.asg 11 (.bin .sub (.fld 0 .l) (.fld 0 .c))) (.seq (.expr (.meth 22 0 .nil)) (.seq (.setf 0 .c (.bin .sub (.fld 0 .l) (.loc 11))) (.seq (.asg 12 (.bin .sub (.fld 0 .l) (.fld 0 .c))) (.seq (.expr (.meth 23 0 .nil)) (.seq (.setf 0 .c (.bin .sub (.fld 0 .l) (.loc 12))) (.seq (.asg 13 (.bin .sub (.fld 0 .l) (.fld 0 .c))) (.seq (.expr (.meth 24 0 .nil)) (.seq (.setf 0 .c (.bin .sub (.fld 0 .l) (.loc 13))) (.seq (.asg 14 (.bin .sub (.fld 0 .l) (.fld 0 .c))) (.seq (.expr (.meth 25 0 .nil)) (.seq (.setf 0 .c (.bin .sub (.fld 0 .l) (.loc 14))) (.seq (.setf 0 .c (.fld 0 .lb)) (.seq (.asg 15 (.fld 0 .c)) (.seq UMs (.seq (.setf 0 .c (.loc 15)) (.seq (.ret (.cst (.bool true))) .skip)))))))))))))))))))))))))))))
theorem b26_eq : b26 = (.seq (.asg 1 (.cst (.bool false))) (.seq (.asg 2 (.fld 0 .c)) (.seq M1s (.seq (.setf 0 .c (.loc 2)) (.seq (.asg 3 (.fld 0 .c)) (.seq M2s (.seq (.setf 0 .c (.loc 3)) (.seq (.setf 0 .p1 (.fld 0 .l)) (.seq (.setf 0 .p2 (.fld 0 .l)) (.seq (.asg 6 (.fld 0 .c)) (.seq RGs (.seq (.setf 0 .c (.loc 6)) (.seq (.setf 0 .lb (.fld 0 .c)) (.seq (.setf 0 .c (.fld 0 .l)) BR)))))))))))))) := rfl
theorem m1_x (d : Nat) (o1 o2 : Option V) (t : Tx) (v2 : V) (rr : List V) (ket : Int) (hl : t.length ≤ 400) :
    ∃ b c' bra' ket' t1, exec (callN FNS (d+2)) M1s (.slf :: .bool false :: v2 :: rr) (mko t 0 (t.length : Int) 0 0 ket o1 o2) = some (.next, .slf :: .bool b :: v2 :: rr, mko t1 c' (t1.length : Int) 0 bra' ket' o1 o2) ∧ MK t1 = markTx [] t ∧ (b = false → t1 = t) := by
  have h4 : 1 < rr.length + 1 + 1 + 1 := by omega
  cases t with
  | nil =>
    refine ⟨false, 0, 0, ket, [], ?_, rfl, fun _ => rfl⟩
    have h : (0 : Int) = ((([] : Tx).length : Nat) : Int) := rfl
    unfold M1s
    simp only [exec, evalX, evalXs, evalT, locV, mk, Stem.get, Stem.put, truthV, cmpV, retOf, binV, insetV, inlV, negV, minV, lenV, aatV, flat, setL, List.getElem?_cons_zero, List.getElem?_cons_succ, List.set_cons_zero, List.set_cons_succ, List.length_cons, List.length_nil, List.replicate, List.cons_append, List.nil_append, Nat.reduceAdd, Nat.reduceSub, Nat.reduceLT, Nat.reduceEqDiff, Option.bind_eq_bind, Option.bind_some, Option.map_some, decide_true, decide_false, ↓reduceIte, bne_self_eq_false, Bool.bne_true, Bool.bne_false, Bool.not_true, Bool.not_false, Bool.false_eq_true, mko, Int.natCast_zero, eq_self]
  | cons x r =>
    have hl' : (x :: r).length ≤ 500 := by omega
    have hn : ¬ ((0 : Int) = (((x :: r).length : Nat) : Int)) := by simp; omega
    have hx : idxV (.str (x :: r)) (.int 0) = some (.str [x]) := idx_app [] r x
    generalize hL : (((x :: r).length : Nat) : Int) = L at *
    by_cases h : x = 121
    · have h5 : decide ([x] = [121]) = true := by simp [h]
      have hs := slice_1 d (x :: r) [] r x 89 1 0 o1 o2 rfl hl'
      have e1 : ((([] : Tx).length : Nat) : Int) = 0 := rfl
      rw [hL, e1, List.nil_append] at hs
      have hL2 : (((89 :: r).length : Nat) : Int) = L := by rw [← hL]; simp
      refine ⟨true, 1, 0, 1, 89 :: r, ?_, ?_, fun h => by cases h⟩
      · rw [hL2]
        simp only [mko, Int.zero_add] at hs
        unfold M1s
        simp only [exec, evalX, evalXs, evalT, locV, mk, Stem.get, Stem.put, truthV, cmpV, retOf, binV, insetV, inlV, negV, minV, lenV, aatV, flat, setL, List.getElem?_cons_zero, List.getElem?_cons_succ, List.set_cons_zero, List.set_cons_succ, List.length_cons, List.length_nil, List.replicate, List.cons_append, List.nil_append, Nat.reduceAdd, Nat.reduceSub, Nat.reduceLT, Nat.reduceEqDiff, Option.bind_eq_bind, Option.bind_some, Option.map_some, decide_true, decide_false, ↓reduceIte, bne_self_eq_false, Bool.bne_true, Bool.bne_false, Bool.not_true, Bool.not_false, Bool.false_eq_true, mko, hn, hx, h5, hs, h4, Int.zero_add]
      · simp [MK, markTx, h]
    · have h5 : decide ([x] = [121]) = false := by simp [h]
      refine ⟨false, 0, 0, ket, x :: r, ?_, ?_, fun _ => rfl⟩
      · rw [hL]
        unfold M1s
        simp only [exec, evalX, evalXs, evalT, locV, mk, Stem.get, Stem.put, truthV, cmpV, retOf, binV, insetV, inlV, negV, minV, lenV, aatV, flat, setL, List.getElem?_cons_zero, List.getElem?_cons_succ, List.set_cons_zero, List.set_cons_succ, List.length_cons, List.length_nil, List.replicate, List.cons_append, List.nil_append, Nat.reduceAdd, Nat.reduceSub, Nat.reduceLT, Nat.reduceEqDiff, Option.bind_eq_bind, Option.bind_some, Option.map_some, decide_true, decide_false, ↓reduceIte, bne_self_eq_false, Bool.bne_true, Bool.bne_false, Bool.not_true, Bool.not_false, Bool.false_eq_true, mko, hn, hx, h5, eq_self]
      · simp [MK, markTx, h]
end Mine.C
end

section
set_option Elab.async false
set_option maxRecDepth 100000
set_option linter.unusedVariables false
set_option linter.unusedSimpArgs false
namespace Mine.C
-- the eight steps, one behind the other
noncomputable def St (p1 p2 : Nat) : Nat → Tx → Option Tx
  | 1, m => A1 m
  | 2, m => A2 p1 m
  | 3, m => A3 m
  | 4, m => A4 p1 m
  | 5, m => A5 p1 m
  | 6, m => A6 p2 m
  | 7, m => A7 p1 p2 m
  | 8, m => A8 p2 m
  | _, _ => none
noncomputable def Fs (p1 p2 k : Nat) (m : Tx) : Tx := (St p1 p2 k m).getD m
noncomputable def run8 (p1 p2 : Nat) (m : Tx) : Tx := Fs p1 p2 8 (Fs p1 p2 7 (Fs p1 p2 6 (Fs p1 p2 5 (Fs p1 p2 4 (Fs p1 p2 3 (Fs p1 p2 2 (Fs p1 p2 1 m)))))))
theorem option_getD_len {o : Option Tx} {m : Tx} (h : ∀ x, o = some x → x.length ≤ m.length) : (o.getD m).length ≤ m.length := by
  cases o with
  | none => exact Nat.le_refl _
  | some x => exact h x rfl
theorem rep_len3 : ∀ k, k < 20 → (rep3 k).length ≤ (rs T3 k).length := by decide +kernel
theorem rep_len4 : ∀ k, k < 7 → (rep4 k).length < (rs T4 k).length := by decide +kernel
theorem tail2_len (p1 : Nat) (x : Tx) : (tail2 p1 x).length ≤ x.length + 1 := by
  unfold tail2
  split
  · simp
  · split
    · rw [List.length_take]; omega
    · split
      · simp
      · omega
theorem sfx_len {s m : Tx} (h : sfx s m = true) : s.length ≤ m.length := by
  have := List.isSuffixOf_iff_suffix.1 h
  exact this.length_le
theorem St_len (p1 p2 k : Nat) (m x : Tx) (h : St p1 p2 k m = some x) : x.length ≤ m.length := by
  match k, h with
  | 0, h => cases h
  | 1, h =>
    change A1 m = some x at h
    unfold A1 at h
    split at h
    · split at h <;> cases h <;> rw [List.length_take] <;> omega
    · cases h
  | 2, h =>
    change A2 p1 m = some x at h
    unfold A2 at h
    split at h
    · split at h
      · cases h; rw [List.length_take]; omega
      · cases h
    · split at h
      · rename_i h2
        have := sfx_len h2
        split at h
        · cases h
          have := tail2_len p1 (m.take (m.length - 2))
          rw [List.length_take] at this
          simp at *; omega
        · cases h
      · split at h
        · rename_i h2
          have := sfx_len h2
          split at h
          · cases h
            have := tail2_len p1 (m.take (m.length - 3))
            rw [List.length_take] at this
            simp at *; omega
          · cases h
        · cases h
  | 3, h =>
    change A3 m = some x at h
    unfold A3 at h
    split at h
    · rename_i h2
      rw [Bool.and_eq_true] at h2
      cases h
      cases m with
      | nil => exact absurd h2.2 (by simp)
      | cons a m => simp
    · cases h
  | 4, h =>
    change A4 p1 m = some x at h
    unfold A4 at h
    cases hb : best T3 m.reverse with
    | none => rw [hb] at h; cases h
    | some j =>
      rw [hb] at h
      obtain ⟨f1, f2, f3⟩ := best_facts T3_ok hb
      have := rep_len3 j f1
      dsimp only at h
      split at h
      · cases h
        rw [List.length_append, List.length_take]; omega
      · cases h
  | 5, h =>
    change A5 p1 m = some x at h
    unfold A5 at h
    cases hb : best T4 m.reverse with
    | none => rw [hb] at h; cases h
    | some j =>
      rw [hb] at h
      obtain ⟨f1, f2, f3⟩ := best_facts T4_ok hb
      have := rep_len4 j f1
      dsimp only at h
      split at h
      · cases h
        rw [List.length_append, List.length_take]; omega
      · cases h
  | 6, h =>
    change A6 p2 m = some x at h
    unfold A6 at h
    cases hb : best T5 m.reverse with
    | none => rw [hb] at h; cases h
    | some j =>
      rw [hb] at h
      dsimp only at h
      split at h
      · split at h
        · cases h; rw [List.length_take]; omega
        · cases h
      · cases h
  | 7, h =>
    change A7 p1 p2 m = some x at h
    unfold A7 at h
    split at h
    · split at h
      · cases h; rw [List.length_take]; omega
      · cases h
    · cases h
  | 8, h =>
    change A8 p2 m = some x at h
    unfold A8 at h
    split at h
    · cases h; rw [List.length_take]; omega
    · cases h
  | k + 9, h => cases h
theorem Fs_len (p1 p2 k : Nat) (m : Tx) : (Fs p1 p2 k m).length ≤ m.length := option_getD_len fun x h => St_len p1 p2 k m x h
theorem call26 (d : Nat) (a : V) (σ : Sta) : callN FNS (d+1) 26 [a] σ = retOf (exec (callN FNS d) b26 [a, .undef, .undef, .undef, .undef, .undef, .undef, .undef, .undef, .undef, .undef, .undef, .undef, .undef, .undef, .undef, .undef, .undef] σ) := rfl
theorem BR_eq : BR = (.seq (.asg 7 (.bin .sub (.fld 0 .l) (.fld 0 .c))) (.seq (.expr (.meth 18 0 .nil)) (.seq (.setf 0 .c (.bin .sub (.fld 0 .l) (.loc 7)))
  (.seq (.asg 8 (.bin .sub (.fld 0 .l) (.fld 0 .c))) (.seq (.expr (.meth 19 0 .nil)) (.seq (.setf 0 .c (.bin .sub (.fld 0 .l) (.loc 8)))
  (.seq (.asg 9 (.bin .sub (.fld 0 .l) (.fld 0 .c))) (.seq (.expr (.meth 20 0 .nil)) (.seq (.setf 0 .c (.bin .sub (.fld 0 .l) (.loc 9)))
  (.seq (.asg 10 (.bin .sub (.fld 0 .l) (.fld 0 .c))) (.seq (.expr (.meth 21 0 .nil)) (.seq (.setf 0 .c (.bin .sub (.fld 0 .l) (.loc 10)))
  (.seq (.asg 11 (.bin .sub (.fld 0 .l) (.fld 0 .c))) (.seq (.expr (.meth 22 0 .nil)) (.seq (.setf 0 .c (.bin .sub (.fld 0 .l) (.loc 11)))
  (.seq (.asg 12 (.bin .sub (.fld 0 .l) (.fld 0 .c))) (.seq (.expr (.meth 23 0 .nil)) (.seq (.setf 0 .c (.bin .sub (.fld 0 .l) (.loc 12)))
  (.seq (.asg 13 (.bin .sub (.fld 0 .l) (.fld 0 .c))) (.seq (.expr (.meth 24 0 .nil)) (.seq (.setf 0 .c (.bin .sub (.fld 0 .l) (.loc 13)))
  (.seq (.asg 14 (.bin .sub (.fld 0 .l) (.fld 0 .c))) (.seq (.expr (.meth 25 0 .nil)) (.seq (.setf 0 .c (.bin .sub (.fld 0 .l) (.loc 14)))
  (.seq (.setf 0 .c (.fld 0 .lb)) (.seq (.asg 15 (.fld 0 .c)) (.seq UMs (.seq (.setf 0 .c (.loc 15)) (.seq (.ret (.cst (.bool true))) .skip))))))))))))))))))))))))))))) := rfl
/-- the marked text of a text -/
def mkd (t : Tx) : Tx := markTx [] t
noncomputable def run0 (t : Tx) : Tx := run8 (R1 (mkd t)) (R2 (mkd t)) (mkd t)
theorem br_x (d : Nat) (b2 : Bool) (v3 x5 : V) (P1 P2 u0 w0 : Int) (m0 m1 m2 m3 m4 m5 m6 m7 m8 : Tx) (y1 : V) (k1 u1 w1 : Int) (s1 : callN FNS (d+4) 18 [.slf] (mk m0 m0.length m0.length 0 u0 w0 P1 P2) = some (y1, mk m1 k1 m1.length 0 u1 w1 P1 P2)) (y2 : V) (k2 u2 w2 : Int) (s2 : callN FNS (d+4) 19 [.slf] (mk m1 m1.length m1.length 0 u1 w1 P1 P2) = some (y2, mk m2 k2 m2.length 0 u2 w2 P1 P2)) (y3 : V) (k3 u3 w3 : Int) (s3 : callN FNS (d+4) 20 [.slf] (mk m2 m2.length m2.length 0 u2 w2 P1 P2) = some (y3, mk m3 k3 m3.length 0 u3 w3 P1 P2)) (y4 : V) (k4 u4 w4 : Int) (s4 : callN FNS (d+4) 21 [.slf] (mk m3 m3.length m3.length 0 u3 w3 P1 P2) = some (y4, mk m4 k4 m4.length 0 u4 w4 P1 P2)) (y5 : V) (k5 u5 w5 : Int) (s5 : callN FNS (d+4) 22 [.slf] (mk m4 m4.length m4.length 0 u4 w4 P1 P2) = some (y5, mk m5 k5 m5.length 0 u5 w5 P1 P2)) (y6 : V) (k6 u6 w6 : Int) (s6 : callN FNS (d+4) 23 [.slf] (mk m5 m5.length m5.length 0 u5 w5 P1 P2) = some (y6, mk m6 k6 m6.length 0 u6 w6 P1 P2)) (y7 : V) (k7 u7 w7 : Int) (s7 : callN FNS (d+4) 24 [.slf] (mk m6 m6.length m6.length 0 u6 w6 P1 P2) = some (y7, mk m7 k7 m7.length 0 u7 w7 P1 P2)) (y8 : V) (k8 u8 w8 : Int) (s8 : callN FNS (d+4) 25 [.slf] (mk m7 m7.length m7.length 0 u7 w7 P1 P2) = some (y8, mk m8 k8 m8.length 0 u8 w8 P1 P2)) (h8 : m8.length ≤ 400) :
    ∃ ρ' br9 ke9, exec (callN FNS (d+4)) BR [.slf, .bool b2, .int 0, .int 0, v3, x5, .int 0, .undef, .undef, .undef, .undef, .undef, .undef, .undef, .undef, .undef, .undef, .undef] (mk m0 m0.length m0.length 0 u0 w0 P1 P2) = some (.ret (.bool true), ρ', mk (if b2 then UMt m8 else m8) 0 ((if b2 then UMt m8 else m8).length : Int) 0 br9 ke9 P1 P2) := by
  obtain ⟨x16, x17, c9, br9, ke9, hum⟩ := um_x b2 (.int 0) (.int 0) v3 x5 (.int 0) (.int ((m0.length : Int) - m0.length)) (.int ((m1.length : Int) - m1.length)) (.int ((m2.length : Int) - m2.length)) (.int ((m3.length : Int) - m3.length)) (.int ((m4.length : Int) - m4.length)) (.int ((m5.length : Int) - m5.length)) (.int ((m6.length : Int) - m6.length)) (.int ((m7.length : Int) - m7.length)) (.int 0) (d+2) m8 (some (.int P1)) (some (.int P2)) .undef .undef u8 w8 h8
  rw [BR_eq]
  rw [stage _ 7 18 _ _ m0 m1 _ _ _ _ _ _ _ _ rfl (by omega) (by simp) s1]
  rw [stage _ 8 19 _ _ m1 m2 _ _ _ _ _ _ _ _ rfl (by omega) (by simp) s2]
  rw [stage _ 9 20 _ _ m2 m3 _ _ _ _ _ _ _ _ rfl (by omega) (by simp) s3]
  rw [stage _ 10 21 _ _ m3 m4 _ _ _ _ _ _ _ _ rfl (by omega) (by simp) s4]
  rw [stage _ 11 22 _ _ m4 m5 _ _ _ _ _ _ _ _ rfl (by omega) (by simp) s5]
  rw [stage _ 12 23 _ _ m5 m6 _ _ _ _ _ _ _ _ rfl (by omega) (by simp) s6]
  rw [stage _ 13 24 _ _ m6 m7 _ _ _ _ _ _ _ _ rfl (by omega) (by simp) s7]
  rw [stage _ 14 25 _ _ m7 m8 _ _ _ _ _ _ _ _ rfl (by omega) (by simp) s8]
  simp only [mko] at hum
  refine ⟨[.slf, .bool b2, .int 0, .int 0, v3, x5, .int 0, .int ((m0.length : Int) - m0.length), .int ((m1.length : Int) - m1.length), .int ((m2.length : Int) - m2.length), .int ((m3.length : Int) - m3.length), .int ((m4.length : Int) - m4.length), .int ((m5.length : Int) - m5.length), .int ((m6.length : Int) - m6.length), .int ((m7.length : Int) - m7.length), .int 0, x16, x17], br9, ke9, ?_⟩
  simp only [exec, evalX, evalXs, evalT, locV, mk, Stem.get, Stem.put, truthV, cmpV, retOf, binV, insetV, inlV, negV, minV, lenV, aatV, flat, setL, List.getElem?_cons_zero, List.getElem?_cons_succ, List.set_cons_zero, List.set_cons_succ, List.length_cons, List.length_nil, List.replicate, List.cons_append, List.nil_append, Nat.reduceAdd, Nat.reduceSub, Nat.reduceLT, Nat.reduceEqDiff, Option.bind_eq_bind, Option.bind_some, Option.map_some, decide_true, decide_false, ↓reduceIte, bne_self_eq_false, Bool.bne_true, Bool.bne_false, Bool.not_true, Bool.not_false, Bool.false_eq_true, hum]
theorem Fs_1 (p1 p2 : Nat) (m : Tx) : Fs p1 p2 1 m = (A1 m).getD m := rfl
theorem stf1 (d : Nat) (m : Tx) (bra ket : Int) (p1 p2 : Nat) (hm : m.length ≤ 100) : ∃ (y : Bool) (c br ke : Int), callN FNS (d+4) 18 [.slf] (mk m m.length m.length 0 bra ket p1 p2) = some (.bool y, mk (Fs p1 p2 1 m) c (Fs p1 p2 1 m).length 0 br ke p1 p2) := by
  rw [Fs_1]
  exact step1a d m bra ket p1 p2 hm
theorem Fs_2 (p1 p2 : Nat) (m : Tx) : Fs p1 p2 2 m = (A2 p1 m).getD m := rfl
theorem stf2 (d : Nat) (m : Tx) (bra ket : Int) (p1 p2 : Nat) (hm : m.length ≤ 100) : ∃ (y : Bool) (c br ke : Int), callN FNS (d+4) 19 [.slf] (mk m m.length m.length 0 bra ket p1 p2) = some (.bool y, mk (Fs p1 p2 2 m) c (Fs p1 p2 2 m).length 0 br ke p1 p2) := by
  rw [Fs_2]
  exact step1b d m bra ket p1 p2 hm
theorem Fs_3 (p1 p2 : Nat) (m : Tx) : Fs p1 p2 3 m = (A3 m).getD m := rfl
theorem stf3 (d : Nat) (m : Tx) (bra ket : Int) (p1 p2 : Nat) (hm : m.length ≤ 100) : ∃ (y : Bool) (c br ke : Int), callN FNS (d+4) 20 [.slf] (mk m m.length m.length 0 bra ket p1 p2) = some (.bool y, mk (Fs p1 p2 3 m) c (Fs p1 p2 3 m).length 0 br ke p1 p2) := by
  rw [Fs_3]
  exact step1c d m bra ket p1 p2 hm
theorem Fs_4 (p1 p2 : Nat) (m : Tx) : Fs p1 p2 4 m = (A4 p1 m).getD m := rfl
theorem stf4 (d : Nat) (m : Tx) (bra ket : Int) (p1 p2 : Nat) (hm : m.length ≤ 100) : ∃ (y : Bool) (c br ke : Int), callN FNS (d+4) 21 [.slf] (mk m m.length m.length 0 bra ket p1 p2) = some (.bool y, mk (Fs p1 p2 4 m) c (Fs p1 p2 4 m).length 0 br ke p1 p2) := by
  rw [Fs_4]
  exact step2 d m bra ket p2 p1 hm
theorem Fs_5 (p1 p2 : Nat) (m : Tx) : Fs p1 p2 5 m = (A5 p1 m).getD m := rfl
theorem stf5 (d : Nat) (m : Tx) (bra ket : Int) (p1 p2 : Nat) (hm : m.length ≤ 100) : ∃ (y : Bool) (c br ke : Int), callN FNS (d+4) 22 [.slf] (mk m m.length m.length 0 bra ket p1 p2) = some (.bool y, mk (Fs p1 p2 5 m) c (Fs p1 p2 5 m).length 0 br ke p1 p2) := by
  rw [Fs_5]
  exact step3 d m bra ket p2 p1 hm
theorem Fs_6 (p1 p2 : Nat) (m : Tx) : Fs p1 p2 6 m = (A6 p2 m).getD m := rfl
theorem stf6 (d : Nat) (m : Tx) (bra ket : Int) (p1 p2 : Nat) (hm : m.length ≤ 100) : ∃ (y : Bool) (c br ke : Int), callN FNS (d+4) 23 [.slf] (mk m m.length m.length 0 bra ket p1 p2) = some (.bool y, mk (Fs p1 p2 6 m) c (Fs p1 p2 6 m).length 0 br ke p1 p2) := by
  rw [Fs_6]
  exact step4 d m bra ket p1 p2 hm
theorem Fs_7 (p1 p2 : Nat) (m : Tx) : Fs p1 p2 7 m = (A7 p1 p2 m).getD m := rfl
theorem stf7 (d : Nat) (m : Tx) (bra ket : Int) (p1 p2 : Nat) (hm : m.length ≤ 100) : ∃ (y : Bool) (c br ke : Int), callN FNS (d+4) 24 [.slf] (mk m m.length m.length 0 bra ket p1 p2) = some (.bool y, mk (Fs p1 p2 7 m) c (Fs p1 p2 7 m).length 0 br ke p1 p2) := by
  rw [Fs_7]
  exact step5a d m bra ket p1 p2 hm
theorem Fs_8 (p1 p2 : Nat) (m : Tx) : Fs p1 p2 8 m = (A8 p2 m).getD m := rfl
theorem stf8 (d : Nat) (m : Tx) (bra ket : Int) (p1 p2 : Nat) (hm : m.length ≤ 100) : ∃ (y : Bool) (c br ke : Int), callN FNS (d+4) 25 [.slf] (mk m m.length m.length 0 bra ket p1 p2) = some (.bool y, mk (Fs p1 p2 8 m) c (Fs p1 p2 8 m).length 0 br ke p1 p2) := by
  rw [Fs_8]
  exact step5b d m bra ket p1 p2 hm
theorem M2_of (Φ : Phi) {ρ ρ' : List V} {σ σ' : Sta} (h : exec Φ OUw ρ σ = some (.next, ρ', σ')) : exec Φ M2s ρ σ = some (.next, ρ', σ') := by
  have h2 : exec Φ (.seq OUw .skip) ρ σ = some (.next, ρ', σ') := (seq_next Φ h).trans rfl
  show (exec Φ (.seq OUw .skip) ρ σ >>= _) = _
  rw [h2]; rfl
end Mine.C
end

section
set_option Elab.async false
set_option maxRecDepth 100000
set_option linter.unusedVariables false
set_option linter.unusedSimpArgs false
namespace Mine.C
theorem stem_x (d : Nat) (t : Tx) (o1 o2 : Option V) (hl : t.length ≤ 100) :
    ∃ (b : Bool) (c br ke p1 p2 : Int), (b = false → mkd t = t) ∧ callN FNS (d+5) 26 [.slf] (mko t 0 (t.length : Int) 0 0 (t.length : Int) o1 o2) = some (.bool true, mk (if b then UMt (run0 t) else run0 t) c ((if b then UMt (run0 t) else run0 t).length : Int) 0 br ke p1 p2) := by
  obtain ⟨b1, c1, br1, ke1, t1, hm1, hMK, hb1⟩ := m1_x (d+2) o1 o2 t (.int 0) [.undef, .undef, .undef, .undef, .undef, .undef, .undef, .undef, .undef, .undef, .undef, .undef, .undef, .undef, .undef] t.length (by omega)
  have hlm : (mkd t).length = t.length := by
    have := MK_len t1
    rw [hMK] at this
    have h2 : ∀ (r a : Tx), (markTx a r).length = r.length := by
      intro r
      induction r with
      | nil => intro a; rfl
      | cons c r ih => intro a; simp [markTx, ih]
    exact h2 t []
  have hl1 : t1.length = t.length := by rw [← MK_len t1, hMK]; exact hlm
  obtain ⟨b2, v3, x5, c2, br2, ke2, hb2, hb3, hout⟩ := out_x (d+2) o1 o2 (.int 0) (.int 0) [.undef, .undef, .undef, .undef, .undef, .undef, .undef, .undef, .undef, .undef, .undef, .undef] 1000 t1 [] t1 b1 .undef .undef br1 ke1 rfl (by have := List.count_le_length (a := 121) (l := t1); omega) (by omega)
  have w := (whl_of (callN FNS (d+2+2)) (.x (.cst (.bool true))) OUb _ _).trans hout
  change exec (callN FNS (d+4)) OUw _ _ = _ at w
  rw [List.nil_append, hMK] at w
  change exec (callN FNS (d+4)) OUw _ _ = some (_, _, mko (mkd t) c2 (((mkd t).length : Nat) : Int) 0 br2 ke2 o1 o2) at w
  obtain ⟨c3, hrg⟩ := rg_x (d+3) [.slf, .bool b2, .int 0, .int 0, v3, x5, .int 0, .undef, .undef, .undef, .undef, .undef, .undef, .undef, .undef, .undef, .undef, .undef] rfl (mkd t) br2 ke2 (by omega)
  have hb : b2 = false → mkd t = t := by
    intro h
    obtain ⟨h1, h2⟩ := hb2 h
    rw [hMK, hb1 h1] at h2
    exact h2
  -- the steps
  unfold run0 run8
  generalize hm0 : mkd t = m0 at *
  generalize hP1 : R1 m0 = P1 at *
  generalize hP2 : R2 m0 = P2 at *
  obtain ⟨y1, k1, u1, w1, s1⟩ := stf1 d m0 br2 ke2 P1 P2 (by omega)
  obtain ⟨y2, k2, u2, w2, s2⟩ := stf2 d (Fs P1 P2 1 m0) u1 w1 P1 P2 (by have := Fs_len P1 P2 1 m0; omega)
  have L1 := Fs_len P1 P2 1 m0
  have L2 := Fs_len P1 P2 2 (Fs P1 P2 1 m0)
  generalize hm1' : Fs P1 P2 1 m0 = m1 at *
  generalize hm2' : Fs P1 P2 2 m1 = m2 at *
  obtain ⟨y3, k3, u3, w3, s3⟩ := stf3 d m2 u2 w2 P1 P2 (by omega)
  have L3 := Fs_len P1 P2 3 m2
  generalize hm3' : Fs P1 P2 3 m2 = m3 at *
  obtain ⟨y4, k4, u4, w4, s4⟩ := stf4 d m3 u3 w3 P1 P2 (by omega)
  have L4 := Fs_len P1 P2 4 m3
  generalize hm4' : Fs P1 P2 4 m3 = m4 at *
  obtain ⟨y5, k5, u5, w5, s5⟩ := stf5 d m4 u4 w4 P1 P2 (by omega)
  have L5 := Fs_len P1 P2 5 m4
  generalize hm5' : Fs P1 P2 5 m4 = m5 at *
  obtain ⟨y6, k6, u6, w6, s6⟩ := stf6 d m5 u5 w5 P1 P2 (by omega)
  have L6 := Fs_len P1 P2 6 m5
  generalize hm6' : Fs P1 P2 6 m5 = m6 at *
  obtain ⟨y7, k7, u7, w7, s7⟩ := stf7 d m6 u6 w6 P1 P2 (by omega)
  have L7 := Fs_len P1 P2 7 m6
  generalize hm7' : Fs P1 P2 7 m6 = m7 at *
  obtain ⟨y8, k8, u8, w8, s8⟩ := stf8 d m7 u7 w7 P1 P2 (by omega)
  have L8 := Fs_len P1 P2 8 m7
  generalize hm8' : Fs P1 P2 8 m7 = m8 at *
  obtain ⟨ρ', br9, ke9, hBR⟩ := br_x d b2 v3 x5 P1 P2 br2 ke2 m0 m1 m2 m3 m4 m5 m6 m7 m8 (.bool y1) k1 u1 w1 s1 (.bool y2) k2 u2 w2 s2 (.bool y3) k3 u3 w3 s3 (.bool y4) k4 u4 w4 s4 (.bool y5) k5 u5 w5 s5 (.bool y6) k6 u6 w6 s6 (.bool y7) k7 u7 w7 s7 (.bool y8) k8 u8 w8 s8 (by omega)
  refine ⟨b2, 0, br9, ke9, P1, P2, hb, ?_⟩
  rw [call26, b26_eq]
  have w2 := M2_of _ w
  rw [show d + 2 + 2 = d + 4 from rfl] at hm1
  rw [show d + 3 + 1 = d + 4 from rfl] at hrg
  simp only [List.length_nil, Int.natCast_zero] at w2
  have q0 : exec (callN FNS (d+4)) (.asg 1 (.cst (.bool false))) [.slf, .undef, .undef, .undef, .undef, .undef, .undef, .undef, .undef, .undef, .undef, .undef, .undef, .undef, .undef, .undef, .undef, .undef] (mko t 0 (t.length : Int) 0 0 (t.length : Int) o1 o2) = some (.next, [.slf, .bool false, .undef, .undef, .undef, .undef, .undef, .undef, .undef, .undef, .undef, .undef, .undef, .undef, .undef, .undef, .undef, .undef], (mko t 0 (t.length : Int) 0 0 (t.length : Int) o1 o2)) := by simp only [exec, evalX, evalXs, evalT, locV, mk, Stem.get, Stem.put, truthV, cmpV, retOf, binV, insetV, inlV, negV, minV, lenV, aatV, flat, setL, List.getElem?_cons_zero, List.getElem?_cons_succ, List.set_cons_zero, List.set_cons_succ, List.length_cons, List.length_nil, List.replicate, List.cons_append, List.nil_append, Nat.reduceAdd, Nat.reduceSub, Nat.reduceLT, Nat.reduceEqDiff, Option.bind_eq_bind, Option.bind_some, Option.map_some, decide_true, decide_false, ↓reduceIte, bne_self_eq_false, Bool.bne_true, Bool.bne_false, Bool.not_true, Bool.not_false, Bool.false_eq_true, mko]
  have q1 : exec (callN FNS (d+4)) (.asg 2 (.fld 0 .c)) [.slf, .bool false, .undef, .undef, .undef, .undef, .undef, .undef, .undef, .undef, .undef, .undef, .undef, .undef, .undef, .undef, .undef, .undef] (mko t 0 (t.length : Int) 0 0 (t.length : Int) o1 o2) = some (.next, [.slf, .bool false, .int 0, .undef, .undef, .undef, .undef, .undef, .undef, .undef, .undef, .undef, .undef, .undef, .undef, .undef, .undef, .undef], (mko t 0 (t.length : Int) 0 0 (t.length : Int) o1 o2)) := by simp only [exec, evalX, evalXs, evalT, locV, mk, Stem.get, Stem.put, truthV, cmpV, retOf, binV, insetV, inlV, negV, minV, lenV, aatV, flat, setL, List.getElem?_cons_zero, List.getElem?_cons_succ, List.set_cons_zero, List.set_cons_succ, List.length_cons, List.length_nil, List.replicate, List.cons_append, List.nil_append, Nat.reduceAdd, Nat.reduceSub, Nat.reduceLT, Nat.reduceEqDiff, Option.bind_eq_bind, Option.bind_some, Option.map_some, decide_true, decide_false, ↓reduceIte, bne_self_eq_false, Bool.bne_true, Bool.bne_false, Bool.not_true, Bool.not_false, Bool.false_eq_true, mko]
  have q3 : exec (callN FNS (d+4)) (.setf 0 .c (.loc 2)) [.slf, .bool b1, .int 0, .undef, .undef, .undef, .undef, .undef, .undef, .undef, .undef, .undef, .undef, .undef, .undef, .undef, .undef, .undef] (mko t1 c1 (t1.length : Int) 0 br1 ke1 o1 o2) = some (.next, [.slf, .bool b1, .int 0, .undef, .undef, .undef, .undef, .undef, .undef, .undef, .undef, .undef, .undef, .undef, .undef, .undef, .undef, .undef], mko t1 0 (t1.length : Int) 0 br1 ke1 o1 o2) := by simp only [exec, evalX, evalXs, evalT, locV, mk, Stem.get, Stem.put, truthV, cmpV, retOf, binV, insetV, inlV, negV, minV, lenV, aatV, flat, setL, List.getElem?_cons_zero, List.getElem?_cons_succ, List.set_cons_zero, List.set_cons_succ, List.length_cons, List.length_nil, List.replicate, List.cons_append, List.nil_append, Nat.reduceAdd, Nat.reduceSub, Nat.reduceLT, Nat.reduceEqDiff, Option.bind_eq_bind, Option.bind_some, Option.map_some, decide_true, decide_false, ↓reduceIte, bne_self_eq_false, Bool.bne_true, Bool.bne_false, Bool.not_true, Bool.not_false, Bool.false_eq_true, mko]
  have q4 : exec (callN FNS (d+4)) (.asg 3 (.fld 0 .c)) [.slf, .bool b1, .int 0, .undef, .undef, .undef, .undef, .undef, .undef, .undef, .undef, .undef, .undef, .undef, .undef, .undef, .undef, .undef] (mko t1 0 (t1.length : Int) 0 br1 ke1 o1 o2) = some (.next, [.slf, .bool b1, .int 0, .int 0, .undef, .undef, .undef, .undef, .undef, .undef, .undef, .undef, .undef, .undef, .undef, .undef, .undef, .undef], mko t1 0 (t1.length : Int) 0 br1 ke1 o1 o2) := by simp only [exec, evalX, evalXs, evalT, locV, mk, Stem.get, Stem.put, truthV, cmpV, retOf, binV, insetV, inlV, negV, minV, lenV, aatV, flat, setL, List.getElem?_cons_zero, List.getElem?_cons_succ, List.set_cons_zero, List.set_cons_succ, List.length_cons, List.length_nil, List.replicate, List.cons_append, List.nil_append, Nat.reduceAdd, Nat.reduceSub, Nat.reduceLT, Nat.reduceEqDiff, Option.bind_eq_bind, Option.bind_some, Option.map_some, decide_true, decide_false, ↓reduceIte, bne_self_eq_false, Bool.bne_true, Bool.bne_false, Bool.not_true, Bool.not_false, Bool.false_eq_true, mko]
  have q6 : exec (callN FNS (d+4)) (.setf 0 .c (.loc 3)) [.slf, .bool b2, .int 0, .int 0, v3, x5, .undef, .undef, .undef, .undef, .undef, .undef, .undef, .undef, .undef, .undef, .undef, .undef] (mko m0 c2 (m0.length : Int) 0 br2 ke2 o1 o2) = some (.next, [.slf, .bool b2, .int 0, .int 0, v3, x5, .undef, .undef, .undef, .undef, .undef, .undef, .undef, .undef, .undef, .undef, .undef, .undef], mko m0 0 (m0.length : Int) 0 br2 ke2 o1 o2) := by simp only [exec, evalX, evalXs, evalT, locV, mk, Stem.get, Stem.put, truthV, cmpV, retOf, binV, insetV, inlV, negV, minV, lenV, aatV, flat, setL, List.getElem?_cons_zero, List.getElem?_cons_succ, List.set_cons_zero, List.set_cons_succ, List.length_cons, List.length_nil, List.replicate, List.cons_append, List.nil_append, Nat.reduceAdd, Nat.reduceSub, Nat.reduceLT, Nat.reduceEqDiff, Option.bind_eq_bind, Option.bind_some, Option.map_some, decide_true, decide_false, ↓reduceIte, bne_self_eq_false, Bool.bne_true, Bool.bne_false, Bool.not_true, Bool.not_false, Bool.false_eq_true, mko]
  have q7 : exec (callN FNS (d+4)) (.setf 0 .p1 (.fld 0 .l)) [.slf, .bool b2, .int 0, .int 0, v3, x5, .undef, .undef, .undef, .undef, .undef, .undef, .undef, .undef, .undef, .undef, .undef, .undef] (mko m0 0 (m0.length : Int) 0 br2 ke2 o1 o2) = some (.next, [.slf, .bool b2, .int 0, .int 0, v3, x5, .undef, .undef, .undef, .undef, .undef, .undef, .undef, .undef, .undef, .undef, .undef, .undef], mko m0 0 (m0.length : Int) 0 br2 ke2 (some (.int m0.length)) o2) := by simp only [exec, evalX, evalXs, evalT, locV, mk, Stem.get, Stem.put, truthV, cmpV, retOf, binV, insetV, inlV, negV, minV, lenV, aatV, flat, setL, List.getElem?_cons_zero, List.getElem?_cons_succ, List.set_cons_zero, List.set_cons_succ, List.length_cons, List.length_nil, List.replicate, List.cons_append, List.nil_append, Nat.reduceAdd, Nat.reduceSub, Nat.reduceLT, Nat.reduceEqDiff, Option.bind_eq_bind, Option.bind_some, Option.map_some, decide_true, decide_false, ↓reduceIte, bne_self_eq_false, Bool.bne_true, Bool.bne_false, Bool.not_true, Bool.not_false, Bool.false_eq_true, mko]
  have q8 : exec (callN FNS (d+4)) (.setf 0 .p2 (.fld 0 .l)) [.slf, .bool b2, .int 0, .int 0, v3, x5, .undef, .undef, .undef, .undef, .undef, .undef, .undef, .undef, .undef, .undef, .undef, .undef] (mko m0 0 (m0.length : Int) 0 br2 ke2 (some (.int m0.length)) o2) = some (.next, [.slf, .bool b2, .int 0, .int 0, v3, x5, .undef, .undef, .undef, .undef, .undef, .undef, .undef, .undef, .undef, .undef, .undef, .undef], mk m0 0 (m0.length : Int) 0 br2 ke2 m0.length m0.length) := by simp only [exec, evalX, evalXs, evalT, locV, mk, Stem.get, Stem.put, truthV, cmpV, retOf, binV, insetV, inlV, negV, minV, lenV, aatV, flat, setL, List.getElem?_cons_zero, List.getElem?_cons_succ, List.set_cons_zero, List.set_cons_succ, List.length_cons, List.length_nil, List.replicate, List.cons_append, List.nil_append, Nat.reduceAdd, Nat.reduceSub, Nat.reduceLT, Nat.reduceEqDiff, Option.bind_eq_bind, Option.bind_some, Option.map_some, decide_true, decide_false, ↓reduceIte, bne_self_eq_false, Bool.bne_true, Bool.bne_false, Bool.not_true, Bool.not_false, Bool.false_eq_true, mko]
  have q9 : exec (callN FNS (d+4)) (.asg 6 (.fld 0 .c)) [.slf, .bool b2, .int 0, .int 0, v3, x5, .undef, .undef, .undef, .undef, .undef, .undef, .undef, .undef, .undef, .undef, .undef, .undef] (mk m0 0 (m0.length : Int) 0 br2 ke2 m0.length m0.length) = some (.next, [.slf, .bool b2, .int 0, .int 0, v3, x5, .int 0, .undef, .undef, .undef, .undef, .undef, .undef, .undef, .undef, .undef, .undef, .undef], mk m0 0 (m0.length : Int) 0 br2 ke2 m0.length m0.length) := by simp only [exec, evalX, evalXs, evalT, locV, mk, Stem.get, Stem.put, truthV, cmpV, retOf, binV, insetV, inlV, negV, minV, lenV, aatV, flat, setL, List.getElem?_cons_zero, List.getElem?_cons_succ, List.set_cons_zero, List.set_cons_succ, List.length_cons, List.length_nil, List.replicate, List.cons_append, List.nil_append, Nat.reduceAdd, Nat.reduceSub, Nat.reduceLT, Nat.reduceEqDiff, Option.bind_eq_bind, Option.bind_some, Option.map_some, decide_true, decide_false, ↓reduceIte, bne_self_eq_false, Bool.bne_true, Bool.bne_false, Bool.not_true, Bool.not_false, Bool.false_eq_true]
  have q11 : exec (callN FNS (d+4)) (.setf 0 .c (.loc 6)) [.slf, .bool b2, .int 0, .int 0, v3, x5, .int 0, .undef, .undef, .undef, .undef, .undef, .undef, .undef, .undef, .undef, .undef, .undef] (mk m0 c3 (m0.length : Int) 0 br2 ke2 P1 P2) = some (.next, [.slf, .bool b2, .int 0, .int 0, v3, x5, .int 0, .undef, .undef, .undef, .undef, .undef, .undef, .undef, .undef, .undef, .undef, .undef], mk m0 0 (m0.length : Int) 0 br2 ke2 P1 P2) := by simp only [exec, evalX, evalXs, evalT, locV, mk, Stem.get, Stem.put, truthV, cmpV, retOf, binV, insetV, inlV, negV, minV, lenV, aatV, flat, setL, List.getElem?_cons_zero, List.getElem?_cons_succ, List.set_cons_zero, List.set_cons_succ, List.length_cons, List.length_nil, List.replicate, List.cons_append, List.nil_append, Nat.reduceAdd, Nat.reduceSub, Nat.reduceLT, Nat.reduceEqDiff, Option.bind_eq_bind, Option.bind_some, Option.map_some, decide_true, decide_false, ↓reduceIte, bne_self_eq_false, Bool.bne_true, Bool.bne_false, Bool.not_true, Bool.not_false, Bool.false_eq_true]
  have q12 : exec (callN FNS (d+4)) (.setf 0 .lb (.fld 0 .c)) [.slf, .bool b2, .int 0, .int 0, v3, x5, .int 0, .undef, .undef, .undef, .undef, .undef, .undef, .undef, .undef, .undef, .undef, .undef] (mk m0 0 (m0.length : Int) 0 br2 ke2 P1 P2) = some (.next, [.slf, .bool b2, .int 0, .int 0, v3, x5, .int 0, .undef, .undef, .undef, .undef, .undef, .undef, .undef, .undef, .undef, .undef, .undef], mk m0 0 (m0.length : Int) 0 br2 ke2 P1 P2) := by simp only [exec, evalX, evalXs, evalT, locV, mk, Stem.get, Stem.put, truthV, cmpV, retOf, binV, insetV, inlV, negV, minV, lenV, aatV, flat, setL, List.getElem?_cons_zero, List.getElem?_cons_succ, List.set_cons_zero, List.set_cons_succ, List.length_cons, List.length_nil, List.replicate, List.cons_append, List.nil_append, Nat.reduceAdd, Nat.reduceSub, Nat.reduceLT, Nat.reduceEqDiff, Option.bind_eq_bind, Option.bind_some, Option.map_some, decide_true, decide_false, ↓reduceIte, bne_self_eq_false, Bool.bne_true, Bool.bne_false, Bool.not_true, Bool.not_false, Bool.false_eq_true]
  have q13 : exec (callN FNS (d+4)) (.setf 0 .c (.fld 0 .l)) [.slf, .bool b2, .int 0, .int 0, v3, x5, .int 0, .undef, .undef, .undef, .undef, .undef, .undef, .undef, .undef, .undef, .undef, .undef] (mk m0 0 (m0.length : Int) 0 br2 ke2 P1 P2) = some (.next, [.slf, .bool b2, .int 0, .int 0, v3, x5, .int 0, .undef, .undef, .undef, .undef, .undef, .undef, .undef, .undef, .undef, .undef, .undef], mk m0 m0.length (m0.length : Int) 0 br2 ke2 P1 P2) := by simp only [exec, evalX, evalXs, evalT, locV, mk, Stem.get, Stem.put, truthV, cmpV, retOf, binV, insetV, inlV, negV, minV, lenV, aatV, flat, setL, List.getElem?_cons_zero, List.getElem?_cons_succ, List.set_cons_zero, List.set_cons_succ, List.length_cons, List.length_nil, List.replicate, List.cons_append, List.nil_append, Nat.reduceAdd, Nat.reduceSub, Nat.reduceLT, Nat.reduceEqDiff, Option.bind_eq_bind, Option.bind_some, Option.map_some, decide_true, decide_false, ↓reduceIte, bne_self_eq_false, Bool.bne_true, Bool.bne_false, Bool.not_true, Bool.not_false, Bool.false_eq_true]
  rw [seq_next _ q0, seq_next _ q1, seq_next _ hm1, seq_next _ q3, seq_next _ q4, seq_next _ w2, seq_next _ q6, seq_next _ q7, seq_next _ q8, seq_next _ q9, seq_next _ hrg, seq_next _ q11, seq_next _ q12, seq_next _ q13, hBR]
  rfl
end Mine.C
end

section
set_option Elab.async false
set_option maxRecDepth 100000
set_option linter.unusedVariables false
set_option linter.unusedSimpArgs false
namespace Mine.C
theorem call14 (d : Nat) (a b : V) (σ : Sta) : callN FNS (d+1) 14 [a, b] σ = retOf (exec (callN FNS d) b14 [a, b] σ) := rfl
theorem stemWord_x (d : Nat) (σ : Stem) (t : Tx) (hl : t.length ≤ 100) :
    ∃ (b : Bool) (σ' : Stem), (b = false → mkd t = t) ∧ callN FNS (d+6) 14 [.slf, .str t] (some σ) = some (.str (if b then UMt (run0 t) else run0 t), some σ') := by
  obtain ⟨b, c, br, ke, p1, p2, hb, h⟩ := stem_x d t σ.p1 σ.p2 hl
  have h1 := set_current (d+4) σ t
  have h3 := get_current (d+4) (if b then UMt (run0 t) else run0 t) c ((if b then UMt (run0 t) else run0 t).length : Int) 0 br ke p1 p2
  have e : ∀ s, mk (if b then UMt (run0 t) else run0 t) c ((if b then UMt (run0 t) else run0 t).length : Int) 0 br ke p1 p2 = s → ∃ q, s = some q := by
    intro s hs; rw [← hs]; exact ⟨_, rfl⟩
  obtain ⟨q, hq⟩ := e _ rfl
  rw [hq] at h h3
  refine ⟨b, q, hb, ?_⟩
  simp only [mko] at h
  rw [call14]
  simp only [exec, evalX, evalXs, evalT, locV, mk, Stem.get, Stem.put, truthV, cmpV, retOf, binV, insetV, inlV, negV, minV, lenV, aatV, flat, setL, List.getElem?_cons_zero, List.getElem?_cons_succ, List.set_cons_zero, List.set_cons_succ, List.length_cons, List.length_nil, List.replicate, List.cons_append, List.nil_append, Nat.reduceAdd, Nat.reduceSub, Nat.reduceLT, Nat.reduceEqDiff, Option.bind_eq_bind, Option.bind_some, Option.map_some, decide_true, decide_false, ↓reduceIte, bne_self_eq_false, Bool.bne_true, Bool.bne_false, Bool.not_true, Bool.not_false, Bool.false_eq_true, b14, h1, h, h3]
theorem call28 (d : Nat) (a : V) (σ : Sta) : callN FNS (d+1) 28 [a] σ = retOf (exec (callN FNS d) b28 [a] σ) := rfl
theorem vowel_x (d : Nat) (c : Nat) (σ : Sta) : callN FNS (d+1) 28 [.str [c]] σ = some (.bool (isV c), σ) := by
  have : ([[97], [101], [105], [111], [117], [121]] : List Tx).contains [c] = isV c := rfl
  simp only [exec, evalX, evalXs, evalT, locV, mk, Stem.get, Stem.put, truthV, cmpV, retOf, binV, insetV, inlV, negV, minV, lenV, aatV, flat, setL, List.getElem?_cons_zero, List.getElem?_cons_succ, List.set_cons_zero, List.set_cons_succ, List.length_cons, List.length_nil, List.replicate, List.cons_append, List.nil_append, Nat.reduceAdd, Nat.reduceSub, Nat.reduceLT, Nat.reduceEqDiff, Option.bind_eq_bind, Option.bind_some, Option.map_some, decide_true, decide_false, ↓reduceIte, bne_self_eq_false, Bool.bne_true, Bool.bne_false, Bool.not_true, Bool.not_false, Bool.false_eq_true, call28, b28, this]
def mV (m : Tx) : V := .list (m.map fun c => .str [c])
theorem mV_idx (P R : Tx) (x : Nat) : idxV (mV (P ++ x :: R)) (.int (P.length : Int)) = some (.str [x]) := by
  simp [idxV, mV]
theorem mV_len (m : Tx) : lenV (mV m) = some (.int (m.length : Int)) := by simp [lenV, mV]
theorem mV_slc (m : Tx) (q : Nat) : slcV (mV m) .none (.int (q : Int)) = some (mV (m.take q)) := by
  rcases Nat.le_total m.length q with h | h
  · simp [slcV, mV, loOf, hiOf, Nat.min_eq_left h, List.take_of_length_le h]
    exact List.take_of_length_le (by simp)
  · simp [slcV, mV, loOf, hiOf, Nat.min_eq_right h, List.map_take]
theorem mV_any (m : Tx) : anyVowV (mV m) = some (.bool (m.any isV)) := by
  have : ∀ m : Tx, anyVow (m.map fun c => V.str [c]) = some (m.any isV) := by
    intro m
    induction m with
    | nil => rfl
    | cons c m ih => simp only [List.map_cons, anyVow, ih, Option.map_some, List.any_cons]; rfl
  simp [anyVowV, mV, this]
theorem slc_hi2 (t : Tx) (q : Nat) : slcV (.str t) .none (.int (q : Int)) = some (.str (t.take q)) := by
  rcases Nat.le_total t.length q with h | h
  · simp [slcV, loOf, hiOf, Nat.min_eq_left h, List.take_of_length_le h]
  · simp [slcV, loOf, hiOf, Nat.min_eq_right h]
theorem rangeUp_succ (a : Int) (n : Nat) : rangeUp a (n + 1) = .int a :: rangeUp (a + 1) n := by
  simp only [rangeUp, List.range_succ_eq_map, List.map_cons, List.map_map, Int.natCast_zero, Int.add_zero]
  congr 1
  apply List.map_congr_left
  intro k _
  simp only [Function.comp]
  congr 1
  omega
def RGb : S := (.seq (.ife (.and (.x (.call 28 (.cons (.idx (.loc 0) (.bin .sub (.loc 2) (.cst (.int 1)))) .nil))) (.and (.not (.x (.call 28 (.cons (.idx (.loc 0) (.loc 2)) .nil)))) .tt)) (.seq (.ret (.bin .add (.loc 2) (.cst (.int 1)))) .skip) .skip) .skip)
def RGf : S := .forr 2 (.bin .add (.loc 1) (.cst (.int 1))) (.len (.loc 0)) false RGb
theorem b30_eq : b30 = (.seq RGf (.seq (.ret (.len (.loc 0))) .skip)) := rfl
theorem region_l (d : Nat) (m : Tx) (st : V) (σ : Sta) : ∀ (R P : Tx) (x : Nat) (x2 : V), m = P ++ x :: R →
    ∃ x2', iterF 2 (fun ρ σ => exec (callN FNS (d+1)) RGb ρ σ) (rangeUp ((P.length : Int) + 1) R.length) [mV m, st, x2] σ =
      match vc (x :: R) with
      | some k => some (.ret (.int ((P.length + k : Nat) : Int)), [mV m, st, x2'], σ)
      | none => some (.next, [mV m, st, x2'], σ) := by
  intro R
  induction R with
  | nil => intro P x x2 hm; exact ⟨x2, rfl⟩
  | cons y R ih =>
    intro P x x2 hm
    have h1 : idxV (mV m) (.int (P.length : Int)) = some (.str [x]) := by rw [hm]; exact mV_idx _ _ _
    have h2 : idxV (mV m) (.int ((P.length : Int) + 1)) = some (.str [y]) := by
      have := mV_idx (P ++ [x]) R y
      rw [show (P ++ [x]) ++ y :: R = m by rw [hm]; simp, show (((P ++ [x]).length : Nat) : Int) = (P.length : Int) + 1 by simp] at this
      exact this
    have e1 : (P.length : Int) + 1 - 1 = (P.length : Int) := by omega
    obtain ⟨Q, hQ⟩ : ∃ Q, mV m = .list Q := ⟨_, rfl⟩
    rw [List.length_cons, rangeUp_succ, iterF_cons, vc_cons]
    rw [hQ] at h1 h2 ⊢
    by_cases h : isV x = true ∧ isV y = false
    · rw [if_pos h]
      refine ⟨.int ((P.length : Int) + 1), ?_⟩
      have e2 : (P.length : Int) + 1 + 1 = ((P.length + 2 : Nat) : Int) := by omega
      unfold RGb
      simp only [exec, evalX, evalXs, evalT, locV, mk, Stem.get, Stem.put, truthV, cmpV, retOf, binV, insetV, inlV, negV, minV, lenV, aatV, flat, setL, List.getElem?_cons_zero, List.getElem?_cons_succ, List.set_cons_zero, List.set_cons_succ, List.length_cons, List.length_nil, List.replicate, List.cons_append, List.nil_append, Nat.reduceAdd, Nat.reduceSub, Nat.reduceLT, Nat.reduceEqDiff, Option.bind_eq_bind, Option.bind_some, Option.map_some, decide_true, decide_false, ↓reduceIte, bne_self_eq_false, Bool.bne_true, Bool.bne_false, Bool.not_true, Bool.not_false, Bool.false_eq_true, h1, h2, e1, vowel_x, h.1, h.2, e2]
    · rw [if_neg h]
      obtain ⟨x2', ih⟩ := ih (P ++ [x]) y (.int ((P.length : Int) + 1)) (by rw [hm]; simp)
      rw [hQ] at ih
      rw [show (((P ++ [x]).length : Nat) : Int) = (P.length : Int) + 1 by simp] at ih
      refine ⟨x2', ?_⟩
      have e3 : (match (vc (y :: R)).map (· + 1) with
        | some k => some (Fl.ret (.int ((P.length + k : Nat) : Int)), [V.list Q, st, x2'], σ)
        | none => some (.next, [V.list Q, st, x2'], σ)) = (match vc (y :: R) with
        | some k => some (Fl.ret (.int (((P ++ [x]).length + k : Nat) : Int)), [V.list Q, st, x2'], σ)
        | none => some (.next, [V.list Q, st, x2'], σ)) := by
        cases vc (y :: R) with
        | none => rfl
        | some k =>
          simp only [Option.map_some]
          rw [show (P ++ [x]).length + k = P.length + (k + 1) by simp; omega]
      rw [e3, ← ih]
      cases h3 : isV x
      · unfold RGb
        simp only [exec, evalX, evalXs, evalT, locV, mk, Stem.get, Stem.put, truthV, cmpV, retOf, binV, insetV, inlV, negV, minV, lenV, aatV, flat, setL, List.getElem?_cons_zero, List.getElem?_cons_succ, List.set_cons_zero, List.set_cons_succ, List.length_cons, List.length_nil, List.replicate, List.cons_append, List.nil_append, Nat.reduceAdd, Nat.reduceSub, Nat.reduceLT, Nat.reduceEqDiff, Option.bind_eq_bind, Option.bind_some, Option.map_some, decide_true, decide_false, ↓reduceIte, bne_self_eq_false, Bool.bne_true, Bool.bne_false, Bool.not_true, Bool.not_false, Bool.false_eq_true, h1, h2, e1, vowel_x, h3]
      · have h4 : isV y = true := by
          cases h4 : isV y
          · exact absurd ⟨h3, h4⟩ h
          · rfl
        unfold RGb
        simp only [exec, evalX, evalXs, evalT, locV, mk, Stem.get, Stem.put, truthV, cmpV, retOf, binV, insetV, inlV, negV, minV, lenV, aatV, flat, setL, List.getElem?_cons_zero, List.getElem?_cons_succ, List.set_cons_zero, List.set_cons_succ, List.length_cons, List.length_nil, List.replicate, List.cons_append, List.nil_append, Nat.reduceAdd, Nat.reduceSub, Nat.reduceLT, Nat.reduceEqDiff, Option.bind_eq_bind, Option.bind_some, Option.map_some, decide_true, decide_false, ↓reduceIte, bne_self_eq_false, Bool.bne_true, Bool.bne_false, Bool.not_true, Bool.not_false, Bool.false_eq_true, h1, h2, e1, vowel_x, h3, h4]
theorem call30 (d : Nat) (a b : V) (σ : Sta) : callN FNS (d+1) 30 [a, b] σ = retOf (exec (callN FNS d) b30 [a, b, .undef] σ) := rfl
theorem region_k (d : Nat) (m : Tx) (p : Nat) (hp : p ≤ m.length) (σ : Sta) : ∃ x2', iterF 2 (fun ρ σ => exec (callN FNS (d+1)) RGb ρ σ) (rangeUp ((p : Int) + 1) ((m.length : Int) - ((p : Int) + 1)).toNat) [mV m, .int (p : Int), .undef] σ =
      match vc (m.drop p) with
      | some k => some (.ret (.int ((p + k : Nat) : Int)), [mV m, .int (p : Int), x2'], σ)
      | none => some (.next, [mV m, .int (p : Int), x2'], σ) := by
  cases hd : m.drop p with
  | nil =>
    have : ((m.length : Int) - ((p : Int) + 1)).toNat = 0 := by
      have := congrArg List.length hd
      rw [List.length_drop] at this
      simp at this
      omega
    rw [this]
    exact ⟨.undef, rfl⟩
  | cons x R =>
    have e : m = m.take p ++ x :: R := by rw [← hd]; simp
    obtain ⟨x2', h⟩ := region_l d m (.int (p : Int)) σ R (m.take p) x .undef e
    have e1 : (m.take p).length = p := by simp; omega
    have e2 : ((m.length : Int) - ((p : Int) + 1)).toNat = R.length := by
      have := congrArg List.length hd
      rw [List.length_drop] at this
      simp at this
      omega
    rw [e1] at h
    rw [e2]
    exact ⟨x2', h⟩
theorem forr_of (Φ : Phi) {i : Nat} {lo hi : X} {dn : Bool} {b : S} {ρ : List V} {σ : Sta} {x y : V} {vs : List V} (h1 : evalX Φ ρ lo σ = some (x, σ)) (h2 : evalX Φ ρ hi σ = some (y, σ)) (h3 : rangeV dn x y = some vs) : exec Φ (.forr i lo hi dn b) ρ σ = iterF i (fun ρ σ => exec Φ b ρ σ) vs ρ σ := by
  show (evalX Φ ρ lo σ >>= _) = _
  rw [h1]
  show (evalX Φ ρ hi σ >>= _) = _
  rw [h2]
  show (rangeV dn x y >>= _) = _
  rw [h3]
  rfl
theorem rangeV_up {a b : Int} (h1 : small a = true) (h2 : small b = true) : rangeV false (.int a) (.int b) = some (rangeUp a (b - a).toNat) := by
  unfold rangeV
  dsimp only
  rw [h1, h2]
  rfl
theorem region_w (d : Nat) (m : Tx) (p : Nat) (hp : p ≤ m.length) (hm : m.length ≤ 400) (σ : Sta) : exec (callN FNS (d+1)) RGf [mV m, .int (p : Int), .undef] σ = iterF 2 (fun ρ σ => exec (callN FNS (d+1)) RGb ρ σ) (rangeUp ((p : Int) + 1) ((m.length : Int) - ((p : Int) + 1)).toNat) [mV m, .int (p : Int), .undef] σ := by
  have hl := mV_len m
  have s1 : small ((p : Int) + 1) = true := small_of (by omega) (by omega)
  have s2 : small (m.length : Int) = true := small_of (by omega) (by omega)
  have e2 : evalX (callN FNS (d+1)) [mV m, .int (p : Int), .undef] (.len (.loc 0)) σ = some (.int (m.length : Int), σ) := by
    show (lenV (mV m) >>= fun z => some (z, σ)) = _
    rw [hl]; rfl
  exact forr_of (callN FNS (d+1)) (i := 2) (lo := .bin .add (.loc 1) (.cst (.int 1))) (hi := .len (.loc 0)) (dn := false) (b := RGb) rfl e2 (rangeV_up s1 s2)
theorem region_x (d : Nat) (m : Tx) (p : Nat) (hp : p ≤ m.length) (hm : m.length ≤ 400) (σ : Sta) : callN FNS (d+2) 30 [mV m, .int (p : Int)] σ = some (.int ((((vc (m.drop p)).map (p + ·)).getD m.length : Nat) : Int), σ) := by
  obtain ⟨x2', key⟩ := region_k d m p hp σ
  have w := (region_w d m p hp hm σ).trans key
  rw [call30, b30_eq]
  cases hv : vc (m.drop p) with
  | none =>
    rw [hv] at w
    rw [seq_next _ w]
    have hl := mV_len m
    obtain ⟨Q, hQ⟩ : ∃ Q, mV m = .list Q := ⟨_, rfl⟩
    rw [hQ] at hl ⊢
    have hl2 : ((Q.length : Nat) : Int) = (m.length : Int) := by simpa [lenV] using hl
    simp only [exec, evalX, evalXs, evalT, locV, mk, Stem.get, Stem.put, truthV, cmpV, retOf, binV, insetV, inlV, negV, minV, lenV, aatV, flat, setL, List.getElem?_cons_zero, List.getElem?_cons_succ, List.set_cons_zero, List.set_cons_succ, List.length_cons, List.length_nil, List.replicate, List.cons_append, List.nil_append, Nat.reduceAdd, Nat.reduceSub, Nat.reduceLT, Nat.reduceEqDiff, Option.bind_eq_bind, Option.bind_some, Option.map_some, decide_true, decide_false, ↓reduceIte, bne_self_eq_false, Bool.bne_true, Bool.bne_false, Bool.not_true, Bool.not_false, Bool.false_eq_true, hl2, Option.map_none, Option.getD_none]
  | some k =>
    rw [hv] at w
    rw [seq_ret _ w]
    simp only [exec, evalX, evalXs, evalT, locV, mk, Stem.get, Stem.put, truthV, cmpV, retOf, binV, insetV, inlV, negV, minV, lenV, aatV, flat, setL, List.getElem?_cons_zero, List.getElem?_cons_succ, List.set_cons_zero, List.set_cons_succ, List.length_cons, List.length_nil, List.replicate, List.cons_append, List.nil_append, Nat.reduceAdd, Nat.reduceSub, Nat.reduceLT, Nat.reduceEqDiff, Option.bind_eq_bind, Option.bind_some, Option.map_some, decide_true, decide_false, ↓reduceIte, bne_self_eq_false, Bool.bne_true, Bool.bne_false, Bool.not_true, Bool.not_false, Bool.false_eq_true, Option.map_some, Option.getD_some]
theorem call31 (d : Nat) (a : V) (σ : Sta) : callN FNS (d+1) 31 [a] σ = retOf (exec (callN FNS d) b31 [a, .undef] σ) := rfl
theorem isW_iff (c : Nat) : isW c = (([[119], [120], [89]] : List Tx).contains [c] || isV c) := by
  unfold isW isV wxyTx vowelTx
  simp only [List.contains_cons, List.contains_nil, Bool.or_false]
  have e : ∀ k : Nat, (([c] : Tx) == [k]) = (c == k) := by intro k; simp
  simp only [e]
  cases c == 89 <;> cases c == 97 <;> cases c == 101 <;> cases c == 105 <;> cases c == 111 <;> cases c == 117 <;> cases c == 119 <;> cases c == 120 <;> cases c == 121 <;> rfl
theorem short_x (d : Nat) (x : Tx) (σ : Sta) : callN FNS (d+2) 31 [mV x] σ = some (.bool (shR x.reverse), σ) := by
  have hl := mV_len x
  obtain ⟨Q, hQ⟩ : ∃ Q, mV x = .list Q := ⟨_, rfl⟩
  have hl2 : ((Q.length : Nat) : Int) = (x.length : Int) := by rw [hQ] at hl; simpa [lenV] using hl
  by_cases h3 : (x.length : Int) < 3
  · have hs : shR x.reverse = false := by
      have hx : x.reverse.length < 3 := by simp; omega
      match x.reverse, hx with
      | [], _ => rfl
      | [_], _ => rfl
      | [_, _], _ => rfl
      | _ :: _ :: _ :: _, h => simp at h; omega
    rw [hs, hQ]
    rw [call31]
    simp only [exec, evalX, evalXs, evalT, locV, mk, Stem.get, Stem.put, truthV, cmpV, retOf, binV, insetV, inlV, negV, minV, lenV, aatV, flat, setL, List.getElem?_cons_zero, List.getElem?_cons_succ, List.set_cons_zero, List.set_cons_succ, List.length_cons, List.length_nil, List.replicate, List.cons_append, List.nil_append, Nat.reduceAdd, Nat.reduceSub, Nat.reduceLT, Nat.reduceEqDiff, Option.bind_eq_bind, Option.bind_some, Option.map_some, decide_true, decide_false, ↓reduceIte, bne_self_eq_false, Bool.bne_true, Bool.bne_false, Bool.not_true, Bool.not_false, Bool.false_eq_true, b31, hl2, h3]
  · obtain ⟨c, b, a, r, hr⟩ : ∃ c b a r, x.reverse = c :: b :: a :: r := by
      have hx : 3 ≤ x.reverse.length := by simp; omega
      match x.reverse, hx with
      | c :: b :: a :: r, _ => exact ⟨c, b, a, r, rfl⟩
    have hx : x = r.reverse ++ [a] ++ [b] ++ [c] := by
      have := congrArg List.reverse hr
      rw [List.reverse_reverse] at this
      rw [this]; simp
    have hxl : x.length = r.reverse.length + 3 := by rw [hx]; simp
    have i1 : idxV (mV x) (.int ((x.length : Int) - 1)) = some (.str [c]) := by
      have := mV_idx (r.reverse ++ [a] ++ [b]) [] c
      rw [show (r.reverse ++ [a] ++ [b]) ++ c :: [] = x by rw [hx], show (((r.reverse ++ [a] ++ [b]).length : Nat) : Int) = (x.length : Int) - 1 by simp [hxl]; omega] at this
      exact this
    have i2 : idxV (mV x) (.int ((x.length : Int) - 2)) = some (.str [b]) := by
      have := mV_idx (r.reverse ++ [a]) [c] b
      rw [show (r.reverse ++ [a]) ++ b :: [c] = x by rw [hx]; simp, show (((r.reverse ++ [a]).length : Nat) : Int) = (x.length : Int) - 2 by simp [hxl]; omega] at this
      exact this
    have i3 : idxV (mV x) (.int ((x.length : Int) - 3)) = some (.str [a]) := by
      have := mV_idx r.reverse [b, c] a
      rw [show r.reverse ++ a :: [b, c] = x by rw [hx]; simp, show (((r.reverse).length : Nat) : Int) = (x.length : Int) - 3 by omega] at this
      exact this
    have hs : shR x.reverse = (!isW c && isV b && !isV a) := by rw [hr]; rfl
    have hw := isW_iff c
    rw [hs]
    rw [hQ] at i1 i2 i3 ⊢
    rw [call31]
    generalize hcc : ([[119], [120], [89]] : List Tx).contains [c] = cc at hw
    cases cc
    · cases hc : isV c
      · rw [hc] at hw
        cases hb : isV b
        · simp only [exec, evalX, evalXs, evalT, locV, mk, Stem.get, Stem.put, truthV, cmpV, retOf, binV, insetV, inlV, negV, minV, lenV, aatV, flat, setL, List.getElem?_cons_zero, List.getElem?_cons_succ, List.set_cons_zero, List.set_cons_succ, List.length_cons, List.length_nil, List.replicate, List.cons_append, List.nil_append, Nat.reduceAdd, Nat.reduceSub, Nat.reduceLT, Nat.reduceEqDiff, Option.bind_eq_bind, Option.bind_some, Option.map_some, decide_true, decide_false, ↓reduceIte, bne_self_eq_false, Bool.bne_true, Bool.bne_false, Bool.not_true, Bool.not_false, Bool.false_eq_true, b31, hl2, h3, i1, hcc, vowel_x, hc, i2, hb, Bool.and_false, Bool.false_and]
        · simp only [exec, evalX, evalXs, evalT, locV, mk, Stem.get, Stem.put, truthV, cmpV, retOf, binV, insetV, inlV, negV, minV, lenV, aatV, flat, setL, List.getElem?_cons_zero, List.getElem?_cons_succ, List.set_cons_zero, List.set_cons_succ, List.length_cons, List.length_nil, List.replicate, List.cons_append, List.nil_append, Nat.reduceAdd, Nat.reduceSub, Nat.reduceLT, Nat.reduceEqDiff, Option.bind_eq_bind, Option.bind_some, Option.map_some, decide_true, decide_false, ↓reduceIte, bne_self_eq_false, Bool.bne_true, Bool.bne_false, Bool.not_true, Bool.not_false, Bool.false_eq_true, b31, hl2, h3, i1, hcc, vowel_x, hc, i2, hb, i3, hw, Bool.or_self, Bool.and_true, Bool.true_and]
      · rw [hc] at hw
        simp only [exec, evalX, evalXs, evalT, locV, mk, Stem.get, Stem.put, truthV, cmpV, retOf, binV, insetV, inlV, negV, minV, lenV, aatV, flat, setL, List.getElem?_cons_zero, List.getElem?_cons_succ, List.set_cons_zero, List.set_cons_succ, List.length_cons, List.length_nil, List.replicate, List.cons_append, List.nil_append, Nat.reduceAdd, Nat.reduceSub, Nat.reduceLT, Nat.reduceEqDiff, Option.bind_eq_bind, Option.bind_some, Option.map_some, decide_true, decide_false, ↓reduceIte, bne_self_eq_false, Bool.bne_true, Bool.bne_false, Bool.not_true, Bool.not_false, Bool.false_eq_true, b31, hl2, h3, i1, hcc, vowel_x, hc, hw, Bool.or_true, Bool.and_false, Bool.false_and]
    · simp only [exec, evalX, evalXs, evalT, locV, mk, Stem.get, Stem.put, truthV, cmpV, retOf, binV, insetV, inlV, negV, minV, lenV, aatV, flat, setL, List.getElem?_cons_zero, List.getElem?_cons_succ, List.set_cons_zero, List.set_cons_succ, List.length_cons, List.length_nil, List.replicate, List.cons_append, List.nil_append, Nat.reduceAdd, Nat.reduceSub, Nat.reduceLT, Nat.reduceEqDiff, Option.bind_eq_bind, Option.bind_some, Option.map_some, decide_true, decide_false, ↓reduceIte, bne_self_eq_false, Bool.bne_true, Bool.bne_false, Bool.not_true, Bool.not_false, Bool.false_eq_true, b31, hl2, h3, i1, hcc, hw, Bool.true_or, Bool.and_false, Bool.false_and]
end Mine.C
end

section
set_option Elab.async false
set_option maxRecDepth 100000
set_option linter.unusedVariables false
set_option linter.unusedSimpArgs false
namespace Mine.C
def pairV (p : Tx × Tx) : V := .tup [.str p.1, .str p.2]
def lgF (t : Tx) (cur : Tx × Tx) : List (Tx × Tx) → Tx × Tx
  | [] => cur
  | r :: l => lgF t (if cur.1.length < r.1.length ∧ sfx r.1 t = true then r else cur) l
def LGb : S := (.seq (.ife (.and (.x (.cmp .gt (.len (.idx (.loc 3) (.cst (.int 0)))) (.len (.idx (.loc 2) (.cst (.int 0)))))) (.and (.x (.endsw (.loc 1) (.idx (.loc 3) (.cst (.int 0))))) .tt)) (.seq (.asg 2 (.loc 3)) .skip) .skip) .skip)
def LGf : S := .forx 3 (.loc 0) LGb
theorem b32_eq : b32 = (.seq (.asg 2 (.tup (.cons (.cst (.str [])) (.cons (.cst (.str [])) .nil)))) (.seq LGf (.seq (.ret (.loc 2)) .skip))) := rfl
theorem pair0 (a b : V) : idxV (.tup [a, b]) (.int 0) = some a := rfl
theorem pair1 (a b : V) : idxV (.tup [a, b]) (.int 1) = some b := rfl
theorem lg_x (Φ : Phi) (rowsV : V) (t : Tx) (σ : Sta) : ∀ (l : List (Tx × Tx)) (c1 c2 : Tx) (x3 : V), ∃ x3', iterF 3 (fun ρ σ => exec Φ LGb ρ σ) (l.map pairV) [rowsV, .str t, .tup [.str c1, .str c2], x3] σ = some (.next, [rowsV, .str t, pairV (lgF t (c1, c2) l), x3'], σ) := by
  intro l
  induction l with
  | nil => intro c1 c2 x3; exact ⟨x3, rfl⟩
  | cons r l ih =>
    intro c1 c2 x3
    obtain ⟨r1, r2⟩ := r
    by_cases h1 : c1.length < r1.length
    · have h1' : (c1.length : Int) < (r1.length : Int) := by omega
      cases h2 : List.isSuffixOf r1 t
      · have e : lgF t (c1, c2) ((r1, r2) :: l) = lgF t (c1, c2) l := by unfold lgF; rw [if_neg (by simp [sfx, h2])]; cases l <;> rfl
        obtain ⟨x3', ih⟩ := ih c1 c2 (.tup [.str r1, .str r2])
        refine ⟨x3', ?_⟩
        rw [e, List.map_cons, iterF_cons, ← ih]
        unfold LGb pairV
        simp only [exec, evalX, evalXs, evalT, locV, mk, Stem.get, Stem.put, truthV, cmpV, retOf, binV, insetV, inlV, negV, minV, lenV, aatV, flat, setL, List.getElem?_cons_zero, List.getElem?_cons_succ, List.set_cons_zero, List.set_cons_succ, List.length_cons, List.length_nil, List.replicate, List.cons_append, List.nil_append, Nat.reduceAdd, Nat.reduceSub, Nat.reduceLT, Nat.reduceEqDiff, Option.bind_eq_bind, Option.bind_some, Option.map_some, decide_true, decide_false, ↓reduceIte, bne_self_eq_false, Bool.bne_true, Bool.bne_false, Bool.not_true, Bool.not_false, Bool.false_eq_true, pair0, h1', endswV, h2]
      · have e : lgF t (c1, c2) ((r1, r2) :: l) = lgF t (r1, r2) l := by rw [lgF, if_pos ⟨h1, h2⟩]
        obtain ⟨x3', ih⟩ := ih r1 r2 (.tup [.str r1, .str r2])
        refine ⟨x3', ?_⟩
        rw [e, List.map_cons, iterF_cons, ← ih]
        unfold LGb pairV
        simp only [exec, evalX, evalXs, evalT, locV, mk, Stem.get, Stem.put, truthV, cmpV, retOf, binV, insetV, inlV, negV, minV, lenV, aatV, flat, setL, List.getElem?_cons_zero, List.getElem?_cons_succ, List.set_cons_zero, List.set_cons_succ, List.length_cons, List.length_nil, List.replicate, List.cons_append, List.nil_append, Nat.reduceAdd, Nat.reduceSub, Nat.reduceLT, Nat.reduceEqDiff, Option.bind_eq_bind, Option.bind_some, Option.map_some, decide_true, decide_false, ↓reduceIte, bne_self_eq_false, Bool.bne_true, Bool.bne_false, Bool.not_true, Bool.not_false, Bool.false_eq_true, pair0, h1', endswV, h2]
    · have h1' : ¬ (c1.length : Int) < (r1.length : Int) := by omega
      have e : lgF t (c1, c2) ((r1, r2) :: l) = lgF t (c1, c2) l := by rw [lgF, if_neg (fun h => h1 h.1)]
      obtain ⟨x3', ih⟩ := ih c1 c2 (.tup [.str r1, .str r2])
      refine ⟨x3', ?_⟩
      rw [e, List.map_cons, iterF_cons, ← ih]
      unfold LGb pairV
      simp only [exec, evalX, evalXs, evalT, locV, mk, Stem.get, Stem.put, truthV, cmpV, retOf, binV, insetV, inlV, negV, minV, lenV, aatV, flat, setL, List.getElem?_cons_zero, List.getElem?_cons_succ, List.set_cons_zero, List.set_cons_succ, List.length_cons, List.length_nil, List.replicate, List.cons_append, List.nil_append, Nat.reduceAdd, Nat.reduceSub, Nat.reduceLT, Nat.reduceEqDiff, Option.bind_eq_bind, Option.bind_some, Option.map_some, decide_true, decide_false, ↓reduceIte, bne_self_eq_false, Bool.bne_true, Bool.bne_false, Bool.not_true, Bool.not_false, Bool.false_eq_true, pair0, h1', endswV]
theorem call32 (d : Nat) (a b : V) (σ : Sta) : callN FNS (d+1) 32 [a, b] σ = retOf (exec (callN FNS d) b32 [a, b, .undef, .undef] σ) := rfl
theorem longest_x (d : Nat) (l : List (Tx × Tx)) (t : Tx) (σ : Sta) : callN FNS (d+1) 32 [.list (l.map pairV), .str t] σ = some (pairV (lgF t ([], []) l), σ) := by
  obtain ⟨x3', h⟩ := lg_x (callN FNS d) (.list (l.map pairV)) t σ l [] [] .undef
  have w : exec (callN FNS d) LGf [.list (l.map pairV), .str t, .tup [.str [], .str []], .undef] σ = some (.next, [.list (l.map pairV), .str t, pairV (lgF t ([], []) l), x3'], σ) := h
  rw [call32, b32_eq]
  rw [seq_next _ (ρ' := [.list (l.map pairV), .str t, .tup [.str [], .str []], .undef]) (σ' := σ) rfl, seq_next _ w]
  rfl
def InvL (rows : List Row) (prs : List (Tx × Tx)) (W : Tx) (i : Nat) (cur : Tx × Tx) : Prop :=
  (cur = ([], []) ∧ ∀ m, m < i → (rs rows m).isPrefixOf W = false) ∨ (∃ k, k < i ∧ prs[k]? = some cur ∧ (rs rows k).isPrefixOf W = true ∧ ∀ m, m < i → (rs rows m).isPrefixOf W = true → (rs rows m).length ≤ (rs rows k).length)
theorem lg_inv (rows : List Row) (prs : List (Tx × Tx)) (t : Tx) (hlen : prs.length = rows.length) (hk : ∀ k r, prs[k]? = some r → r.1.reverse = rs rows k) (hpos : ∀ k, k < rows.length → 0 < (rs rows k).length) : ∀ (l : List (Tx × Tx)) (i : Nat) (cur : Tx × Tx), l = prs.drop i → i ≤ prs.length → InvL rows prs t.reverse i cur → InvL rows prs t.reverse prs.length (lgF t cur l) := by
  intro l
  induction l with
  | nil =>
    intro i cur hl hi hI
    have : prs.length ≤ i := by
      have := congrArg List.length hl
      rw [List.length_drop] at this
      simp at this; omega
    rw [show i = prs.length by omega] at hI
    exact hI
  | cons r l ih =>
    intro i cur hl hi hI
    have hi2 : i < prs.length := by
      have := congrArg List.length hl
      rw [List.length_drop] at this
      simp at this; omega
    have hri : prs[i]? = some r := by
      have := congrArg List.head? hl
      rw [List.head?_drop] at this
      exact this.symm
    have hl2 : l = prs.drop (i + 1) := by
      have := congrArg List.tail hl
      rw [List.tail_drop] at this
      exact this
    have hr := hk i r hri
    have hs : sfx r.1 t = (rs rows i).isPrefixOf t.reverse := by unfold sfx List.isSuffixOf; rw [hr]
    have hrl : r.1.length = (rs rows i).length := by rw [← hr]; simp
    have hp := hpos i (by omega)
    rw [lgF]
    refine ih (i + 1) _ hl2 (by omega) ?_
    rcases hI with ⟨h1, h2⟩ | ⟨k, h1, h2, h3, h4⟩
    · by_cases hc : cur.1.length < r.1.length ∧ sfx r.1 t = true
      · rw [if_pos hc]
        rw [hs] at hc
        refine Or.inr ⟨i, by omega, hri, hc.2, fun m hm hp => ?_⟩
        by_cases hmi : m = i
        · rw [hmi]; exact Nat.le_refl _
        · rw [h2 m (by omega)] at hp; cases hp
      · rw [if_neg hc]
        refine Or.inl ⟨h1, fun m hm => ?_⟩
        by_cases hmi : m = i
        · rw [hmi, ← hs]
          cases hx : sfx r.1 t
          · rfl
          · exact absurd ⟨by rw [h1, hrl]; exact hp, hx⟩ hc
        · exact h2 m (by omega)
    · have hkl : cur.1.length = (rs rows k).length := by rw [← hk k cur h2]; simp
      by_cases hc : cur.1.length < r.1.length ∧ sfx r.1 t = true
      · rw [if_pos hc]
        rw [hs] at hc
        refine Or.inr ⟨i, by omega, hri, hc.2, fun m hm hp => ?_⟩
        by_cases hmi : m = i
        · rw [hmi]; exact Nat.le_refl _
        · have := h4 m (by omega) hp; omega
      · rw [if_neg hc]
        refine Or.inr ⟨k, by omega, h2, h3, fun m hm hq => ?_⟩
        by_cases hmi : m = i
        · subst hmi
          rw [← hs] at hq
          apply Classical.byContradiction
          intro hlt
          exact hc ⟨by omega, hq⟩
        · exact h4 m (by omega) hq
theorem lg_best (rows : List Row) (hok : rowsOk rows = true) (hnd : nodupB rows = true) (prs : List (Tx × Tx)) (t : Tx) (hlen : prs.length = rows.length) (hk : ∀ k r, prs[k]? = some r → r.1.reverse = rs rows k) (hpos : ∀ k, k < rows.length → 0 < (rs rows k).length) :
    match best rows t.reverse with
    | some k => ∃ r, prs[k]? = some r ∧ lgF t ([], []) prs = r
    | none => lgF t ([], []) prs = ([], []) := by
  have h := lg_inv rows prs t hlen hk hpos prs 0 ([], []) rfl (by omega) (Or.inl ⟨rfl, fun m hm => by omega⟩)
  rcases h with ⟨h1, h2⟩ | ⟨k, h1, h2, h3, h4⟩
  · have hb : best rows t.reverse = none := best_eq hok hnd (fun m hm => h2 m (by omega))
    rw [hb]; exact h1
  · have hb : best rows t.reverse = some k := best_eq hok hnd (best_some (by omega) h3 fun m hm hl => by
      cases hx : (rs rows m).isPrefixOf t.reverse
      · rfl
      · have := h4 m (by omega) hx; omega)
    rw [hb]
    exact ⟨_, h2, rfl⟩
end Mine.C
end

section
set_option Elab.async false
set_option maxRecDepth 100000
set_option linter.unusedVariables false
set_option linter.unusedSimpArgs false
namespace Mine.C
def prs3 : List (Tx × Tx) := [([97, 110, 99, 105], [97, 110, 99, 101]), ([101, 110, 99, 105], [101, 110, 99, 101]), ([97, 98, 108, 105], [97, 98, 108, 101]), ([101, 108, 105], [101]), ([97, 108, 108, 105], [97, 108]), ([111, 117, 115, 108, 105], [111, 117, 115]), ([101, 110, 116, 108, 105], [101, 110, 116]), ([97, 108, 105, 116, 105], [97, 108]), ([98, 105, 108, 105, 116, 105], [98, 108, 101]), ([105, 118, 105, 116, 105], [105, 118, 101]), ([116, 105, 111, 110, 97, 108], [116, 105, 111, 110]), ([97, 116, 105, 111, 110, 97, 108], [97, 116, 101]), ([97, 108, 105, 115, 109], [97, 108]), ([97, 116, 105, 111, 110], [97, 116, 101]), ([105, 122, 97, 116, 105, 111, 110], [105, 122, 101]), ([105, 122, 101, 114], [105, 122, 101]), ([97, 116, 111, 114], [97, 116, 101]), ([105, 118, 101, 110, 101, 115, 115], [105, 118, 101]), ([102, 117, 108, 110, 101, 115, 115], [102, 117, 108]), ([111, 117, 115, 110, 101, 115, 115], [111, 117, 115])]
theorem prs3_v : vTWO = .list (prs3.map pairV) := rfl
def prs4 : List (Tx × Tx) := [([105, 99, 97, 116, 101], [105, 99]), ([97, 116, 105, 118, 101], []), ([97, 108, 105, 122, 101], [97, 108]), ([105, 99, 105, 116, 105], [105, 99]), ([105, 99, 97, 108], [105, 99]), ([102, 117, 108], []), ([110, 101, 115, 115], [])]
theorem prs4_v : vTHREE = .list (prs4.map pairV) := rfl
def prs5 : List (Tx × Tx) := [([105, 99], []), ([97, 110, 99, 101], []), ([101, 110, 99, 101], []), ([97, 98, 108, 101], []), ([105, 98, 108, 101], []), ([97, 116, 101], []), ([105, 118, 101], []), ([105, 122, 101], []), ([105, 116, 105], []), ([97, 108], []), ([105, 115, 109], []), ([105, 111, 110], []), ([101, 114], []), ([111, 117, 115], []), ([97, 110, 116], []), ([101, 110, 116], []), ([109, 101, 110, 116], []), ([101, 109, 101, 110, 116], []), ([111, 117], [])]
theorem prs5_v : vFOUR = .list (prs5.map pairV) := rfl
def K4 : S := (.ife (.and (.x (.endsw (.loc 0) (.cst (.str [115])))) (.and (.not (.x (.endsw (.loc 0) (.cst (.str [115, 115]))))) .tt)) (.seq (.ife (.or (.x (.endsw (.loc 0) (.cst (.str [115, 115, 101, 115])))) (.or (.x (.endsw (.loc 0) (.cst (.str [105, 101, 115])))) .ff)) (.seq (.ret (.tup (.cons (.cst (.int 1)) (.cons (.slc (.loc 0) (.cst .none) (.bin .sub (.loc 2) (.cst (.int 2)))) .nil)))) .skip) .skip) (.seq (.ret (.tup (.cons (.cst (.int 1)) (.cons (.slc (.loc 0) (.cst .none) (.bin .sub (.loc 2) (.cst (.int 1)))) .nil)))) .skip)) .skip)
def K5 : S := (.ife (.x (.endsw (.loc 0) (.cst (.str [101, 101, 100])))) (.seq (.ife (.x (.cmp .le (.loc 3) (.bin .sub (.loc 2) (.cst (.int 3))))) (.seq (.ret (.tup (.cons (.cst (.int 2)) (.cons (.slc (.loc 0) (.cst .none) (.bin .sub (.loc 2) (.cst (.int 1)))) .nil)))) .skip) .skip) .skip) (.seq (.ife (.or (.x (.endsw (.loc 0) (.cst (.str [101, 100])))) (.or (.x (.endsw (.loc 0) (.cst (.str [105, 110, 103])))) .ff)) (.seq (.asg 5 (.bin .sub (.loc 2) (.cst (.int 3)))) (.seq (.ife (.x (.endsw (.loc 0) (.cst (.str [101, 100])))) (.seq (.asg 5 (.bin .sub (.loc 2) (.cst (.int 2)))) .skip) .skip) (.seq (.ife (.x (.anyV (.slc (.loc 1) (.cst .none) (.loc 5)))) (.seq (.asg 6 (.slc (.loc 0) (.cst .none) (.loc 5))) (.seq (.ife (.or (.x (.endsw (.loc 6) (.cst (.str [97, 116])))) (.or (.x (.endsw (.loc 6) (.cst (.str [98, 108])))) (.or (.x (.endsw (.loc 6) (.cst (.str [105, 122])))) .ff))) (.seq (.ret (.tup (.cons (.cst (.int 2)) (.cons (.bin .add (.loc 6) (.cst (.str [101]))) .nil)))) .skip) .skip) (.seq (.ife (.and (.x (.inl (.slc (.loc 6) (.bin .sub (.loc 5) (.cst (.int 1))) (.cst .none)) [[98], [100], [102], [103], [109], [110], [112], [114], [116]])) (.and (.x (.endsw (.slc (.loc 6) (.cst .none) (.bin .sub (.loc 5) (.cst (.int 1)))) (.slc (.loc 6) (.bin .sub (.loc 5) (.cst (.int 1))) (.cst .none)))) .tt)) (.seq (.ret (.tup (.cons (.cst (.int 2)) (.cons (.slc (.loc 6) (.cst .none) (.bin .sub (.loc 5) (.cst (.int 1)))) .nil)))) .skip) .skip) (.seq (.ife (.and (.x (.cmp .eq (.loc 5) (.loc 3))) (.and (.x (.call 31 (.cons (.slc (.loc 1) (.cst .none) (.loc 5)) .nil))) .tt)) (.seq (.ret (.tup (.cons (.cst (.int 2)) (.cons (.bin .add (.loc 6) (.cst (.str [101]))) .nil)))) .skip) .skip) (.seq (.ret (.tup (.cons (.cst (.int 2)) (.cons (.loc 6) .nil)))) .skip))))) .skip) .skip))) .skip) .skip))
def K6 : S := (.ife (.and (.x (.endsw (.loc 0) (.cst (.str [121])))) (.and (.x (.anyV (.slc (.loc 1) (.cst .none) (.bin .sub (.loc 2) (.cst (.int 1)))))) .tt)) (.seq (.ret (.tup (.cons (.cst (.int 3)) (.cons (.bin .add (.slc (.loc 0) (.cst .none) (.bin .sub (.loc 2) (.cst (.int 1)))) (.cst (.str [105]))) .nil)))) .skip) .skip)
def K8 : S := (.ife (.and (.x (.cmp .ne (.idx (.loc 7) (.cst (.int 0))) (.cst (.str [])))) (.and (.x (.cmp .le (.loc 3) (.bin .sub (.loc 2) (.len (.idx (.loc 7) (.cst (.int 0))))))) .tt)) (.seq (.ret (.tup (.cons (.cst (.int 4)) (.cons (.bin .add (.slc (.loc 0) (.cst .none) (.bin .sub (.loc 2) (.len (.idx (.loc 7) (.cst (.int 0)))))) (.idx (.loc 7) (.cst (.int 1)))) .nil)))) .skip) .skip)
def K10 : S := (.ife (.and (.x (.cmp .ne (.idx (.loc 7) (.cst (.int 0))) (.cst (.str [])))) (.and (.x (.cmp .le (.loc 3) (.bin .sub (.loc 2) (.len (.idx (.loc 7) (.cst (.int 0))))))) .tt)) (.seq (.ret (.tup (.cons (.cst (.int 5)) (.cons (.bin .add (.slc (.loc 0) (.cst .none) (.bin .sub (.loc 2) (.len (.idx (.loc 7) (.cst (.int 0)))))) (.idx (.loc 7) (.cst (.int 1)))) .nil)))) .skip) .skip)
def K12 : S := (.ife (.and (.x (.cmp .ne (.idx (.loc 7) (.cst (.int 0))) (.cst (.str [])))) (.and (.x (.cmp .le (.loc 4) (.bin .sub (.loc 2) (.len (.idx (.loc 7) (.cst (.int 0))))))) .tt)) (.seq (.asg 6 (.slc (.loc 0) (.cst .none) (.bin .sub (.loc 2) (.len (.idx (.loc 7) (.cst (.int 0))))))) (.seq (.ife (.or (.x (.cmp .ne (.idx (.loc 7) (.cst (.int 0))) (.cst (.str [105, 111, 110])))) (.or (.x (.endsw (.loc 6) (.cst (.str [115])))) (.or (.x (.endsw (.loc 6) (.cst (.str [116])))) .ff))) (.seq (.ret (.tup (.cons (.cst (.int 6)) (.cons (.loc 6) .nil)))) .skip) .skip) .skip)) .skip)
def K13 : S := (.ife (.x (.endsw (.loc 0) (.cst (.str [101])))) (.seq (.ife (.or (.x (.cmp .le (.loc 4) (.bin .sub (.loc 2) (.cst (.int 1))))) (.or (.and (.x (.cmp .le (.loc 3) (.bin .sub (.loc 2) (.cst (.int 1))))) (.and (.not (.x (.call 31 (.cons (.slc (.loc 1) (.cst .none) (.bin .sub (.loc 2) (.cst (.int 1)))) .nil)))) .tt)) .ff)) (.seq (.ret (.tup (.cons (.cst (.int 7)) (.cons (.slc (.loc 0) (.cst .none) (.bin .sub (.loc 2) (.cst (.int 1)))) .nil)))) .skip) .skip) .skip) .skip)
def K14 : S := (.ife (.and (.x (.endsw (.loc 0) (.cst (.str [108, 108])))) (.and (.x (.cmp .le (.loc 4) (.bin .sub (.loc 2) (.cst (.int 1))))) .tt)) (.seq (.ret (.tup (.cons (.cst (.int 8)) (.cons (.slc (.loc 0) (.cst .none) (.bin .sub (.loc 2) (.cst (.int 1)))) .nil)))) .skip) .skip)
theorem b33_eq : b33 = (.seq (.asg 1 (.call 29 (.cons (.loc 0) .nil))) (.seq (.asg 2 (.len (.loc 0))) (.seq (.asg 3 (.call 30 (.cons (.loc 1) (.cons (.cst (.int 0)) .nil)))) (.seq (.asg 4 (.call 30 (.cons (.loc 1) (.cons (.loc 3) .nil)))) (.seq K4 (.seq K5 (.seq K6 (.seq (.asg 7 (.call 32 (.cons (.glb 11) (.cons (.loc 0) .nil)))) (.seq K8 (.seq (.asg 7 (.call 32 (.cons (.glb 12) (.cons (.loc 0) .nil)))) (.seq K10 (.seq (.asg 7 (.call 32 (.cons (.glb 13) (.cons (.loc 0) .nil)))) (.seq K12 (.seq K13 (.seq K14 (.seq (.ret (.tup (.cons (.cst (.int 0)) (.cons (.loc 0) .nil)))) .skip)))))))))))))))) := rfl

-- marks and the text without them
def no89 (t : Tx) : Prop := ∀ c ∈ t, c ≠ 89
theorem UMt_mark : ∀ (t a : Tx), no89 t → UMt (markTx a t) = t
  | [], _, _ => rfl
  | c :: r, a, h => by
    have h1 : c ≠ 89 := h c (by simp)
    have h2 : no89 r := fun x hx => h x (by simp [hx])
    simp only [markTx, UMt, List.map_cons]
    congr 1
    · by_cases h3 : c = 121 ∧ (a = [] ∨ vowelTx.contains [a.headD 0] = true)
      · rw [if_pos h3, h3.1]; rfl
      · rw [if_neg h3]
        unfold un; rw [if_neg h1]
    · exact UMt_mark r _ h2
def okP (P : Tx) : Bool := P.all fun c => !(decide (c = 89) || decide (c = 121))
theorem un_ne {p w : Nat} (h1 : p ≠ 89) (h2 : p ≠ 121) : (p == un w) = (p == w) := by
  unfold un
  by_cases h : w = 89
  · rw [if_pos h, h]
    rw [beq_eq_false_iff_ne.2 h1, beq_eq_false_iff_ne.2 h2]
  · rw [if_neg h]
theorem pre_un : ∀ (P W : Tx), okP P = true → P.isPrefixOf (W.map un) = P.isPrefixOf W
  | [], _, _ => by simp
  | p :: P, [], _ => rfl
  | p :: P, w :: W, h => by
    unfold okP at h
    rw [List.all_cons, Bool.and_eq_true] at h
    obtain ⟨h1, h2⟩ := h
    simp at h1
    simp only [List.map_cons, List.isPrefixOf]
    rw [pre_un P W h2, un_ne h1.1 h1.2]
theorem sfx_un (s m : Tx) (h : okP s = true) : List.isSuffixOf s (UMt m) = List.isSuffixOf s m := by
  unfold List.isSuffixOf UMt
  rw [← List.map_reverse, pre_un]
  unfold okP at h ⊢
  rw [List.all_reverse]; exact h
theorem UMt_take (m : Tx) (q : Nat) : (UMt m).take q = UMt (m.take q) := by
  unfold UMt; rw [List.map_take]
theorem UMt_len (m : Tx) : (UMt m).length = m.length := by unfold UMt; simp
/-- what the look sees: the first step that acts, and what it leaves -/
noncomputable def lk (p1 p2 : Nat) (m : Tx) : Nat × Tx :=
  match A1 m with
  | some x => (1, x)
  | none => match A2 p1 m with
  | some x => (2, x)
  | none => match A3 m with
  | some x => (3, x)
  | none => match A4 p1 m with
  | some x => (4, x)
  | none => match A5 p1 m with
  | some x => (5, x)
  | none => match A6 p2 m with
  | some x => (6, x)
  | none => match A7 p1 p2 m with
  | some x => (7, x)
  | none => match A8 p2 m with
  | some x => (8, x)
  | none => (0, m)
def ansV (k : Nat) (x : Tx) : V := .tup [.int (k : Int), .str (UMt x)]
theorem add_e (x : Tx) (s : Tx) (hx : x.length ≤ 400) (hs : s.length ≤ 400) : binV .add (.str x) (.str s) = some (.str (x ++ s)) := by
  have : x.length + s.length ≤ sizeMax := by show _ ≤ 2 ^ 20; omega
  simp only [binV, this, ↓reduceIte]
section
variable (d : Nat) (m : Tx) (p1 p2 : Nat) (σ : Sta) (hm : m.length ≤ 100)
include hm
theorem k4_x (L : List V) : exec (callN FNS (d+3)) K4 (.str (UMt m) :: mV m :: .int (m.length : Int) :: L) σ = match A1 m with
    | some x => some (.ret (ansV 1 x), .str (UMt m) :: mV m :: .int (m.length : Int) :: L, σ)
    | none => some (.next, .str (UMt m) :: mV m :: .int (m.length : Int) :: L, σ) := by
  have u0 := sfx_un [115] m (by decide)
  have u1 := sfx_un [105, 101, 115] m (by decide)
  have u2 := sfx_un [115, 115, 101, 115] m (by decide)
  have u3 := sfx_un [115, 115] m (by decide)
  unfold A1 sfx K4
  cases h0 : List.isSuffixOf [115] m
  · rw [h0] at u0
    simp only [exec, evalX, evalXs, evalT, locV, mk, Stem.get, Stem.put, truthV, cmpV, retOf, binV, insetV, inlV, negV, minV, lenV, aatV, flat, setL, List.getElem?_cons_zero, List.getElem?_cons_succ, List.set_cons_zero, List.set_cons_succ, List.length_cons, List.length_nil, List.replicate, List.cons_append, List.nil_append, Nat.reduceAdd, Nat.reduceSub, Nat.reduceLT, Nat.reduceEqDiff, Option.bind_eq_bind, Option.bind_some, Option.map_some, decide_true, decide_false, ↓reduceIte, bne_self_eq_false, Bool.bne_true, Bool.bne_false, Bool.not_true, Bool.not_false, Bool.false_eq_true, endswV, u0, Bool.false_and]
  · have hn := sfx_len h0
    simp at hn
    rw [h0] at u0
    cases h3 : List.isSuffixOf [115, 115] m
    · rw [h3] at u3
      have e1 : (m.length : Int) - 1 = ((m.length - 1 : Nat) : Int) := by omega
      cases h2 : List.isSuffixOf [115, 115, 101, 115] m
      · rw [h2] at u2
        cases h1 : List.isSuffixOf [105, 101, 115] m
        · rw [h1] at u1
          simp only [exec, evalX, evalXs, evalT, locV, mk, Stem.get, Stem.put, truthV, cmpV, retOf, binV, insetV, inlV, negV, minV, lenV, aatV, flat, setL, List.getElem?_cons_zero, List.getElem?_cons_succ, List.set_cons_zero, List.set_cons_succ, List.length_cons, List.length_nil, List.replicate, List.cons_append, List.nil_append, Nat.reduceAdd, Nat.reduceSub, Nat.reduceLT, Nat.reduceEqDiff, Option.bind_eq_bind, Option.bind_some, Option.map_some, decide_true, decide_false, ↓reduceIte, bne_self_eq_false, Bool.bne_true, Bool.bne_false, Bool.not_true, Bool.not_false, Bool.false_eq_true, endswV, u0, u1, u2, u3, Bool.true_and, Bool.or_self, e1, slc_hi2, ansV, UMt_take]
          rfl
        · rw [h1] at u1
          have hn := sfx_len h1
          simp at hn
          have e2 : (m.length : Int) - 2 = ((m.length - 2 : Nat) : Int) := by omega
          simp only [exec, evalX, evalXs, evalT, locV, mk, Stem.get, Stem.put, truthV, cmpV, retOf, binV, insetV, inlV, negV, minV, lenV, aatV, flat, setL, List.getElem?_cons_zero, List.getElem?_cons_succ, List.set_cons_zero, List.set_cons_succ, List.length_cons, List.length_nil, List.replicate, List.cons_append, List.nil_append, Nat.reduceAdd, Nat.reduceSub, Nat.reduceLT, Nat.reduceEqDiff, Option.bind_eq_bind, Option.bind_some, Option.map_some, decide_true, decide_false, ↓reduceIte, bne_self_eq_false, Bool.bne_true, Bool.bne_false, Bool.not_true, Bool.not_false, Bool.false_eq_true, endswV, u0, u1, u2, u3, Bool.true_and, Bool.or_true, e2, slc_hi2, ansV, UMt_take]
          rfl
      · rw [h2] at u2
        have hn := sfx_len h2
        simp at hn
        have e2 : (m.length : Int) - 2 = ((m.length - 2 : Nat) : Int) := by omega
        simp only [exec, evalX, evalXs, evalT, locV, mk, Stem.get, Stem.put, truthV, cmpV, retOf, binV, insetV, inlV, negV, minV, lenV, aatV, flat, setL, List.getElem?_cons_zero, List.getElem?_cons_succ, List.set_cons_zero, List.set_cons_succ, List.length_cons, List.length_nil, List.replicate, List.cons_append, List.nil_append, Nat.reduceAdd, Nat.reduceSub, Nat.reduceLT, Nat.reduceEqDiff, Option.bind_eq_bind, Option.bind_some, Option.map_some, decide_true, decide_false, ↓reduceIte, bne_self_eq_false, Bool.bne_true, Bool.bne_false, Bool.not_true, Bool.not_false, Bool.false_eq_true, endswV, u0, u2, u3, Bool.true_and, Bool.true_or, e2, slc_hi2, ansV, UMt_take]
        rfl
    · rw [h3] at u3
      simp only [exec, evalX, evalXs, evalT, locV, mk, Stem.get, Stem.put, truthV, cmpV, retOf, binV, insetV, inlV, negV, minV, lenV, aatV, flat, setL, List.getElem?_cons_zero, List.getElem?_cons_succ, List.set_cons_zero, List.set_cons_succ, List.length_cons, List.length_nil, List.replicate, List.cons_append, List.nil_append, Nat.reduceAdd, Nat.reduceSub, Nat.reduceLT, Nat.reduceEqDiff, Option.bind_eq_bind, Option.bind_some, Option.map_some, decide_true, decide_false, ↓reduceIte, bne_self_eq_false, Bool.bne_true, Bool.bne_false, Bool.not_true, Bool.not_false, Bool.false_eq_true, endswV, u0, u3, Bool.and_false]
theorem k13_x (x5 x6 x7 : V) : exec (callN FNS (d+3)) K13 [.str (UMt m), mV m, .int (m.length : Int), .int (p1 : Int), .int (p2 : Int), x5, x6, x7] σ = match A7 p1 p2 m with
    | some x => some (.ret (ansV 7 x), [.str (UMt m), mV m, .int (m.length : Int), .int (p1 : Int), .int (p2 : Int), x5, x6, x7], σ)
    | none => some (.next, [.str (UMt m), mV m, .int (m.length : Int), .int (p1 : Int), .int (p2 : Int), x5, x6, x7], σ) := by
  have u0 := sfx_un [101] m (by decide)
  unfold A7 sfx K13
  cases h0 : List.isSuffixOf [101] m
  · rw [h0] at u0
    rw [if_neg (by simp)]
    simp only [exec, evalX, evalXs, evalT, locV, mk, Stem.get, Stem.put, truthV, cmpV, retOf, binV, insetV, inlV, negV, minV, lenV, aatV, flat, setL, List.getElem?_cons_zero, List.getElem?_cons_succ, List.set_cons_zero, List.set_cons_succ, List.length_cons, List.length_nil, List.replicate, List.cons_append, List.nil_append, Nat.reduceAdd, Nat.reduceSub, Nat.reduceLT, Nat.reduceEqDiff, Option.bind_eq_bind, Option.bind_some, Option.map_some, decide_true, decide_false, ↓reduceIte, bne_self_eq_false, Bool.bne_true, Bool.bne_false, Bool.not_true, Bool.not_false, Bool.false_eq_true, endswV, u0]
  · have hn := sfx_len h0
    simp at hn
    rw [h0] at u0
    rw [if_pos rfl]
    have e1 : (m.length : Int) - 1 = ((m.length - 1 : Nat) : Int) := by omega
    have hs := mV_slc m (m.length - 1)
    have hsh := short_x (d+1) (m.take (m.length - 1)) σ
    by_cases h2 : p2 + 1 ≤ m.length
    · have h2' : (p2 : Int) ≤ ((m.length - 1 : Nat) : Int) := by omega
      rw [if_pos (Or.inl h2)]
      simp only [exec, evalX, evalXs, evalT, locV, mk, Stem.get, Stem.put, truthV, cmpV, retOf, binV, insetV, inlV, negV, minV, lenV, aatV, flat, setL, List.getElem?_cons_zero, List.getElem?_cons_succ, List.set_cons_zero, List.set_cons_succ, List.length_cons, List.length_nil, List.replicate, List.cons_append, List.nil_append, Nat.reduceAdd, Nat.reduceSub, Nat.reduceLT, Nat.reduceEqDiff, Option.bind_eq_bind, Option.bind_some, Option.map_some, decide_true, decide_false, ↓reduceIte, bne_self_eq_false, Bool.bne_true, Bool.bne_false, Bool.not_true, Bool.not_false, Bool.false_eq_true, endswV, u0, e1, h2', slc_hi2, ansV, UMt_take]
      rfl
    · have h2' : ¬ (p2 : Int) ≤ ((m.length - 1 : Nat) : Int) := by omega
      by_cases h1 : p1 + 1 ≤ m.length
      · have h1' : (p1 : Int) ≤ ((m.length - 1 : Nat) : Int) := by omega
        obtain ⟨Q, hQ⟩ : ∃ Q, mV m = .list Q := ⟨_, rfl⟩
        rw [hQ] at hs ⊢
        cases h3 : shR (m.take (m.length - 1)).reverse
        · rw [h3] at hsh
          rw [if_pos (Or.inr ⟨h1, rfl⟩)]
          simp only [exec, evalX, evalXs, evalT, locV, mk, Stem.get, Stem.put, truthV, cmpV, retOf, binV, insetV, inlV, negV, minV, lenV, aatV, flat, setL, List.getElem?_cons_zero, List.getElem?_cons_succ, List.set_cons_zero, List.set_cons_succ, List.length_cons, List.length_nil, List.replicate, List.cons_append, List.nil_append, Nat.reduceAdd, Nat.reduceSub, Nat.reduceLT, Nat.reduceEqDiff, Option.bind_eq_bind, Option.bind_some, Option.map_some, decide_true, decide_false, ↓reduceIte, bne_self_eq_false, Bool.bne_true, Bool.bne_false, Bool.not_true, Bool.not_false, Bool.false_eq_true, endswV, u0, e1, h2', h1', hs, hsh, slc_hi2, ansV, UMt_take]
          rfl
        · rw [h3] at hsh
          rw [if_neg (by simp [h2])]
          simp only [exec, evalX, evalXs, evalT, locV, mk, Stem.get, Stem.put, truthV, cmpV, retOf, binV, insetV, inlV, negV, minV, lenV, aatV, flat, setL, List.getElem?_cons_zero, List.getElem?_cons_succ, List.set_cons_zero, List.set_cons_succ, List.length_cons, List.length_nil, List.replicate, List.cons_append, List.nil_append, Nat.reduceAdd, Nat.reduceSub, Nat.reduceLT, Nat.reduceEqDiff, Option.bind_eq_bind, Option.bind_some, Option.map_some, decide_true, decide_false, ↓reduceIte, bne_self_eq_false, Bool.bne_true, Bool.bne_false, Bool.not_true, Bool.not_false, Bool.false_eq_true, endswV, u0, e1, h2', h1', hs, hsh]
      · have h1' : ¬ (p1 : Int) ≤ ((m.length - 1 : Nat) : Int) := by omega
        rw [if_neg (by simp [h2, h1])]
        simp only [exec, evalX, evalXs, evalT, locV, mk, Stem.get, Stem.put, truthV, cmpV, retOf, binV, insetV, inlV, negV, minV, lenV, aatV, flat, setL, List.getElem?_cons_zero, List.getElem?_cons_succ, List.set_cons_zero, List.set_cons_succ, List.length_cons, List.length_nil, List.replicate, List.cons_append, List.nil_append, Nat.reduceAdd, Nat.reduceSub, Nat.reduceLT, Nat.reduceEqDiff, Option.bind_eq_bind, Option.bind_some, Option.map_some, decide_true, decide_false, ↓reduceIte, bne_self_eq_false, Bool.bne_true, Bool.bne_false, Bool.not_true, Bool.not_false, Bool.false_eq_true, endswV, u0, e1, h2', h1']
theorem k14_x (x5 x6 x7 : V) : exec (callN FNS (d+3)) K14 [.str (UMt m), mV m, .int (m.length : Int), .int (p1 : Int), .int (p2 : Int), x5, x6, x7] σ = match A8 p2 m with
    | some x => some (.ret (ansV 8 x), [.str (UMt m), mV m, .int (m.length : Int), .int (p1 : Int), .int (p2 : Int), x5, x6, x7], σ)
    | none => some (.next, [.str (UMt m), mV m, .int (m.length : Int), .int (p1 : Int), .int (p2 : Int), x5, x6, x7], σ) := by
  have u0 := sfx_un [108, 108] m (by decide)
  unfold A8 sfx K14
  cases h0 : List.isSuffixOf [108, 108] m
  · rw [h0] at u0
    rw [if_neg (by simp)]
    simp only [exec, evalX, evalXs, evalT, locV, mk, Stem.get, Stem.put, truthV, cmpV, retOf, binV, insetV, inlV, negV, minV, lenV, aatV, flat, setL, List.getElem?_cons_zero, List.getElem?_cons_succ, List.set_cons_zero, List.set_cons_succ, List.length_cons, List.length_nil, List.replicate, List.cons_append, List.nil_append, Nat.reduceAdd, Nat.reduceSub, Nat.reduceLT, Nat.reduceEqDiff, Option.bind_eq_bind, Option.bind_some, Option.map_some, decide_true, decide_false, ↓reduceIte, bne_self_eq_false, Bool.bne_true, Bool.bne_false, Bool.not_true, Bool.not_false, Bool.false_eq_true, endswV, u0]
  · have hn := sfx_len h0
    simp at hn
    rw [h0] at u0
    have e1 : (m.length : Int) - 1 = ((m.length - 1 : Nat) : Int) := by omega
    by_cases h2 : p2 + 1 ≤ m.length
    · have h2' : (p2 : Int) ≤ ((m.length - 1 : Nat) : Int) := by omega
      rw [if_pos ⟨rfl, h2⟩]
      simp only [exec, evalX, evalXs, evalT, locV, mk, Stem.get, Stem.put, truthV, cmpV, retOf, binV, insetV, inlV, negV, minV, lenV, aatV, flat, setL, List.getElem?_cons_zero, List.getElem?_cons_succ, List.set_cons_zero, List.set_cons_succ, List.length_cons, List.length_nil, List.replicate, List.cons_append, List.nil_append, Nat.reduceAdd, Nat.reduceSub, Nat.reduceLT, Nat.reduceEqDiff, Option.bind_eq_bind, Option.bind_some, Option.map_some, decide_true, decide_false, ↓reduceIte, bne_self_eq_false, Bool.bne_true, Bool.bne_false, Bool.not_true, Bool.not_false, Bool.false_eq_true, endswV, u0, e1, h2', slc_hi2, ansV, UMt_take]
      rfl
    · have h2' : ¬ (p2 : Int) ≤ ((m.length - 1 : Nat) : Int) := by omega
      rw [if_neg (fun h => h2 h.2)]
      simp only [exec, evalX, evalXs, evalT, locV, mk, Stem.get, Stem.put, truthV, cmpV, retOf, binV, insetV, inlV, negV, minV, lenV, aatV, flat, setL, List.getElem?_cons_zero, List.getElem?_cons_succ, List.set_cons_zero, List.set_cons_succ, List.length_cons, List.length_nil, List.replicate, List.cons_append, List.nil_append, Nat.reduceAdd, Nat.reduceSub, Nat.reduceLT, Nat.reduceEqDiff, Option.bind_eq_bind, Option.bind_some, Option.map_some, decide_true, decide_false, ↓reduceIte, bne_self_eq_false, Bool.bne_true, Bool.bne_false, Bool.not_true, Bool.not_false, Bool.false_eq_true, endswV, u0, e1, h2']
omit hm in
/-- a text ends in y: its marked text ends in y or Y -/
theorem sfx_y : List.isSuffixOf [121] (UMt m) = (sfx [121] m || sfx [89] m) := by
  rcases last_or m with e | ⟨x, a, e⟩
  · rw [e]; rfl
  · rw [e, sfx1, sfx1]
    have : UMt (x ++ [a]) = UMt x ++ [un a] := by unfold UMt; simp
    rw [this]
    show sfx [121] _ = _
    rw [sfx1]
    unfold un
    by_cases h : a = 89
    · rw [if_pos h, h]; rfl
    · rw [if_neg h]
      have : (89 == a) = false := by simp; exact fun k => h k.symm
      rw [this, Bool.or_false]
theorem k6_x (x5 x6 x7 : V) : exec (callN FNS (d+3)) K6 [.str (UMt m), mV m, .int (m.length : Int), .int (p1 : Int), .int (p2 : Int), x5, x6, x7] σ = match A3 m with
    | some x => some (.ret (ansV 3 x), [.str (UMt m), mV m, .int (m.length : Int), .int (p1 : Int), .int (p2 : Int), x5, x6, x7], σ)
    | none => some (.next, [.str (UMt m), mV m, .int (m.length : Int), .int (p1 : Int), .int (p2 : Int), x5, x6, x7], σ) := by
  have u0 := sfx_y m
  unfold A3 K6
  cases h0 : (sfx [121] m || sfx [89] m)
  · rw [h0] at u0
    rw [Bool.false_and, if_neg (by simp)]
    simp only [exec, evalX, evalXs, evalT, locV, mk, Stem.get, Stem.put, truthV, cmpV, retOf, binV, insetV, inlV, negV, minV, lenV, aatV, flat, setL, List.getElem?_cons_zero, List.getElem?_cons_succ, List.set_cons_zero, List.set_cons_succ, List.length_cons, List.length_nil, List.replicate, List.cons_append, List.nil_append, Nat.reduceAdd, Nat.reduceSub, Nat.reduceLT, Nat.reduceEqDiff, Option.bind_eq_bind, Option.bind_some, Option.map_some, decide_true, decide_false, ↓reduceIte, bne_self_eq_false, Bool.bne_true, Bool.bne_false, Bool.not_true, Bool.not_false, Bool.false_eq_true, endswV, u0]
  · have hn : 1 ≤ m.length := by
      cases m with
      | nil => exact absurd h0 (by decide)
      | cons a m => simp
    rw [h0] at u0
    rw [Bool.true_and]
    have e1 : (m.length : Int) - 1 = ((m.length - 1 : Nat) : Int) := by omega
    have hs := mV_slc m (m.length - 1)
    have ha := mV_any (m.take (m.length - 1))
    obtain ⟨Q, hQ⟩ : ∃ Q, mV m = .list Q := ⟨_, rfl⟩
    obtain ⟨Q2, hQ2⟩ : ∃ Q, mV (m.take (m.length - 1)) = .list Q := ⟨_, rfl⟩
    have had := add_e ((UMt m).take (m.length - 1)) [105] (by rw [List.length_take, UMt_len]; omega) (by simp)
    rw [hQ, hQ2] at hs
    rw [hQ2] at ha
    rw [hQ]
    cases h2 : (m.take (m.length - 1)).any isV
    · rw [h2] at ha
      rw [if_neg (by simp)]
      simp only [exec, evalX, evalXs, evalT, locV, mk, Stem.get, Stem.put, truthV, cmpV, retOf, binV, insetV, inlV, negV, minV, lenV, aatV, flat, setL, List.getElem?_cons_zero, List.getElem?_cons_succ, List.set_cons_zero, List.set_cons_succ, List.length_cons, List.length_nil, List.replicate, List.cons_append, List.nil_append, Nat.reduceAdd, Nat.reduceSub, Nat.reduceLT, Nat.reduceEqDiff, Option.bind_eq_bind, Option.bind_some, Option.map_some, decide_true, decide_false, ↓reduceIte, bne_self_eq_false, Bool.bne_true, Bool.bne_false, Bool.not_true, Bool.not_false, Bool.false_eq_true, endswV, u0, e1, hs, ha]
    · rw [h2] at ha
      rw [if_pos rfl]
      have hbin : binV .add (.str ((UMt m).take (m.length - 1))) (.str [105]) = some (.str ((UMt m).take (m.length - 1) ++ [105])) := had
      have hres : UMt (m.take (m.length - 1) ++ [105]) = (UMt m).take (m.length - 1) ++ [105] := by rw [UMt_take]; unfold UMt; simp; rfl
      have hln : ((UMt m).take (m.length - 1)).length + 1 ≤ sizeMax := by
        have : ((UMt m).take (m.length - 1)).length ≤ 100 := by rw [List.length_take, UMt_len]; omega
        show _ ≤ 2 ^ 20; omega
      simp only [exec, evalX, evalXs, evalT, locV, mk, Stem.get, Stem.put, truthV, cmpV, retOf, binV, insetV, inlV, negV, minV, lenV, aatV, flat, setL, List.getElem?_cons_zero, List.getElem?_cons_succ, List.set_cons_zero, List.set_cons_succ, List.length_cons, List.length_nil, List.replicate, List.cons_append, List.nil_append, Nat.reduceAdd, Nat.reduceSub, Nat.reduceLT, Nat.reduceEqDiff, Option.bind_eq_bind, Option.bind_some, Option.map_some, decide_true, decide_false, ↓reduceIte, bne_self_eq_false, Bool.bne_true, Bool.bne_false, Bool.not_true, Bool.not_false, Bool.false_eq_true, endswV, u0, e1, hs, ha, slc_hi2, hln, ansV, hres]
      rfl
end
end Mine.C
end

section
set_option Elab.async false
set_option maxRecDepth 100000
set_option linter.unusedVariables false
set_option linter.unusedSimpArgs false
set_option linter.unusedSectionVars false
namespace Mine.C
def K5t : S := (.ife (.x (.anyV (.slc (.loc 1) (.cst .none) (.loc 5)))) (.seq (.asg 6 (.slc (.loc 0) (.cst .none) (.loc 5))) (.seq (.ife (.or (.x (.endsw (.loc 6) (.cst (.str [97, 116])))) (.or (.x (.endsw (.loc 6) (.cst (.str [98, 108])))) (.or (.x (.endsw (.loc 6) (.cst (.str [105, 122])))) .ff))) (.seq (.ret (.tup (.cons (.cst (.int 2)) (.cons (.bin .add (.loc 6) (.cst (.str [101]))) .nil)))) .skip) .skip) (.seq (.ife (.and (.x (.inl (.slc (.loc 6) (.bin .sub (.loc 5) (.cst (.int 1))) (.cst .none)) [[98], [100], [102], [103], [109], [110], [112], [114], [116]])) (.and (.x (.endsw (.slc (.loc 6) (.cst .none) (.bin .sub (.loc 5) (.cst (.int 1)))) (.slc (.loc 6) (.bin .sub (.loc 5) (.cst (.int 1))) (.cst .none)))) .tt)) (.seq (.ret (.tup (.cons (.cst (.int 2)) (.cons (.slc (.loc 6) (.cst .none) (.bin .sub (.loc 5) (.cst (.int 1)))) .nil)))) .skip) .skip) (.seq (.ife (.and (.x (.cmp .eq (.loc 5) (.loc 3))) (.and (.x (.call 31 (.cons (.slc (.loc 1) (.cst .none) (.loc 5)) .nil))) .tt)) (.seq (.ret (.tup (.cons (.cst (.int 2)) (.cons (.bin .add (.loc 6) (.cst (.str [101]))) .nil)))) .skip) .skip) (.seq (.ret (.tup (.cons (.cst (.int 2)) (.cons (.loc 6) .nil)))) .skip))))) .skip)
theorem K5_eq : K5 = (.ife (.x (.endsw (.loc 0) (.cst (.str [101, 101, 100])))) (.seq (.ife (.x (.cmp .le (.loc 3) (.bin .sub (.loc 2) (.cst (.int 3))))) (.seq (.ret (.tup (.cons (.cst (.int 2)) (.cons (.slc (.loc 0) (.cst .none) (.bin .sub (.loc 2) (.cst (.int 1)))) .nil)))) .skip) .skip) .skip) (.seq (.ife (.or (.x (.endsw (.loc 0) (.cst (.str [101, 100])))) (.or (.x (.endsw (.loc 0) (.cst (.str [105, 110, 103])))) .ff)) (.seq (.asg 5 (.bin .sub (.loc 2) (.cst (.int 3)))) (.seq (.ife (.x (.endsw (.loc 0) (.cst (.str [101, 100])))) (.seq (.asg 5 (.bin .sub (.loc 2) (.cst (.int 2)))) .skip) .skip) (.seq K5t .skip))) .skip) .skip)) := rfl
def pr3 : Option Nat → Tx × Tx
  | some k => ((rs T3 k).reverse, rep3 k)
  | none => ([], [])
def pr4 : Option Nat → Tx × Tx
  | some k => ((rs T4 k).reverse, rep4 k)
  | none => ([], [])
def pr5 : Option Nat → Tx × Tx
  | some k => ((rs T5 k).reverse, [])
  | none => ([], [])
theorem tb3 : ∀ k, k < 20 → prs3[k]? = some ((rs T3 k).reverse, rep3 k) ∧ okP (rs T3 k) = true ∧ 0 < (rs T3 k).length ∧ UMt (rep3 k) = rep3 k := by decide +kernel
theorem tb4 : ∀ k, k < 7 → prs4[k]? = some ((rs T4 k).reverse, rep4 k) ∧ okP (rs T4 k) = true ∧ 0 < (rs T4 k).length ∧ UMt (rep4 k) = rep4 k := by decide +kernel
theorem tb5 : ∀ k, k < 19 → prs5[k]? = some ((rs T5 k).reverse, []) ∧ okP (rs T5 k) = true ∧ 0 < (rs T5 k).length ∧ ((rs T5 k).reverse = [105, 111, 110] ↔ k = 11) := by decide +kernel
theorem best_un {rows : List Row} (hok : rowsOk rows = true) (hnd : nodupB rows = true) (hs : ∀ k, k < rows.length → okP (rs rows k) = true) (m : Tx) : best rows (UMt m).reverse = best rows m.reverse := by
  refine best_congr hok hnd fun k hk => ?_
  unfold UMt
  rw [← List.map_reverse, pre_un _ _ (hs k hk)]
theorem lg3 (m : Tx) : lgF (UMt m) ([], []) prs3 = pr3 (best T3 m.reverse) := by
  have h := lg_best T3 T3_ok T3_nd prs3 (UMt m) rfl (fun k r hr => by
    have hk : k < 20 := by
      have := (List.getElem?_eq_some_iff.1 hr).1
      exact this
    rw [(tb3 k hk).1] at hr
    cases hr; exact List.reverse_reverse _) (fun k hk => (tb3 k hk).2.2.1)
  rw [best_un T3_ok T3_nd (fun k hk => (tb3 k hk).2.1)] at h
  cases hb : best T3 m.reverse with
  | none => rw [hb] at h; exact h
  | some k =>
    rw [hb] at h
    obtain ⟨r, h1, h2⟩ := h
    rw [(tb3 k (best_facts T3_ok hb).1).1] at h1
    cases h1; exact h2
theorem lg4 (m : Tx) : lgF (UMt m) ([], []) prs4 = pr4 (best T4 m.reverse) := by
  have h := lg_best T4 T4_ok T4_nd prs4 (UMt m) rfl (fun k r hr => by
    have hk : k < 7 := by
      have := (List.getElem?_eq_some_iff.1 hr).1
      exact this
    rw [(tb4 k hk).1] at hr
    cases hr; exact List.reverse_reverse _) (fun k hk => (tb4 k hk).2.2.1)
  rw [best_un T4_ok T4_nd (fun k hk => (tb4 k hk).2.1)] at h
  cases hb : best T4 m.reverse with
  | none => rw [hb] at h; exact h
  | some k =>
    rw [hb] at h
    obtain ⟨r, h1, h2⟩ := h
    rw [(tb4 k (best_facts T4_ok hb).1).1] at h1
    cases h1; exact h2
theorem lg5 (m : Tx) : lgF (UMt m) ([], []) prs5 = pr5 (best T5 m.reverse) := by
  have h := lg_best T5 T5_ok T5_nd prs5 (UMt m) rfl (fun k r hr => by
    have hk : k < 19 := by
      have := (List.getElem?_eq_some_iff.1 hr).1
      exact this
    rw [(tb5 k hk).1] at hr
    cases hr; exact List.reverse_reverse _) (fun k hk => (tb5 k hk).2.2.1)
  rw [best_un T5_ok T5_nd (fun k hk => (tb5 k hk).2.1)] at h
  cases hb : best T5 m.reverse with
  | none => rw [hb] at h; exact h
  | some k =>
    rw [hb] at h
    obtain ⟨r, h1, h2⟩ := h
    rw [(tb5 k (best_facts T5_ok hb).1).1] at h1
    cases h1; exact h2
section
variable (d : Nat) (m : Tx) (p1 p2 : Nat) (σ : Sta) (hm : m.length ≤ 100)
include hm
theorem k8_x (x5 x6 : V) : exec (callN FNS (d+3)) K8 [.str (UMt m), mV m, .int (m.length : Int), .int (p1 : Int), .int (p2 : Int), x5, x6, pairV (pr3 (best T3 m.reverse))] σ = match A4 p1 m with
    | some x => some (.ret (ansV 4 x), [.str (UMt m), mV m, .int (m.length : Int), .int (p1 : Int), .int (p2 : Int), x5, x6, pairV (pr3 (best T3 m.reverse))], σ)
    | none => some (.next, [.str (UMt m), mV m, .int (m.length : Int), .int (p1 : Int), .int (p2 : Int), x5, x6, pairV (pr3 (best T3 m.reverse))], σ) := by
  unfold A4
  cases hb : best T3 m.reverse with
  | none =>
    unfold K8
    simp only [exec, evalX, evalXs, evalT, locV, mk, Stem.get, Stem.put, truthV, cmpV, retOf, binV, insetV, inlV, negV, minV, lenV, aatV, flat, setL, List.getElem?_cons_zero, List.getElem?_cons_succ, List.set_cons_zero, List.set_cons_succ, List.length_cons, List.length_nil, List.replicate, List.cons_append, List.nil_append, Nat.reduceAdd, Nat.reduceSub, Nat.reduceLT, Nat.reduceEqDiff, Option.bind_eq_bind, Option.bind_some, Option.map_some, decide_true, decide_false, ↓reduceIte, bne_self_eq_false, Bool.bne_true, Bool.bne_false, Bool.not_true, Bool.not_false, Bool.false_eq_true, pr3, pairV, pair0]
  | some k =>
    obtain ⟨f1, f2, f3⟩ := best_facts T3_ok hb
    obtain ⟨g1, g2, g3, g4⟩ := tb3 k f1
    have h0 : decide ((rs T3 k).reverse = []) = false := by
      rw [decide_eq_false_iff_not]
      intro h
      have := congrArg List.length h
      simp at this
      rw [this] at g3; simp at g3
    have e1 : (m.length : Int) - ((rs T3 k).length : Int) = ((m.length - (rs T3 k).length : Nat) : Int) := by omega
    by_cases h1 : p1 + (rs T3 k).length ≤ m.length
    · have h1' : (p1 : Int) ≤ ((m.length - (rs T3 k).length : Nat) : Int) := by omega
      have hln : ((UMt m).take (m.length - (rs T3 k).length)).length + (rep3 k).length ≤ sizeMax := by
        have : ((UMt m).take (m.length - (rs T3 k).length)).length ≤ 100 := by rw [List.length_take, UMt_len]; omega
        have := (T3_res k f1).2.2
        show _ ≤ 2 ^ 20; omega
      have hres : UMt (m.take (m.length - (rs T3 k).length) ++ rep3 k) = (UMt m).take (m.length - (rs T3 k).length) ++ rep3 k := by
        rw [UMt_take]
        have : UMt (m.take (m.length - (rs T3 k).length) ++ rep3 k) = UMt (m.take (m.length - (rs T3 k).length)) ++ UMt (rep3 k) := by unfold UMt; rw [List.map_append]
        rw [this, g4]
      simp only [if_pos h1]
      unfold K8
      simp only [exec, evalX, evalXs, evalT, locV, mk, Stem.get, Stem.put, truthV, cmpV, retOf, binV, insetV, inlV, negV, minV, lenV, aatV, flat, setL, List.getElem?_cons_zero, List.getElem?_cons_succ, List.set_cons_zero, List.set_cons_succ, List.length_cons, List.length_nil, List.replicate, List.cons_append, List.nil_append, Nat.reduceAdd, Nat.reduceSub, Nat.reduceLT, Nat.reduceEqDiff, Option.bind_eq_bind, Option.bind_some, Option.map_some, decide_true, decide_false, ↓reduceIte, bne_self_eq_false, Bool.bne_true, Bool.bne_false, Bool.not_true, Bool.not_false, Bool.false_eq_true, pr3, pairV, pair0, pair1, h0, List.length_reverse, e1, h1', slc_hi2, hln, ansV, hres]
      rfl
    · have h1' : ¬ (p1 : Int) ≤ ((m.length - (rs T3 k).length : Nat) : Int) := by omega
      simp only [if_neg h1]
      unfold K8
      simp only [exec, evalX, evalXs, evalT, locV, mk, Stem.get, Stem.put, truthV, cmpV, retOf, binV, insetV, inlV, negV, minV, lenV, aatV, flat, setL, List.getElem?_cons_zero, List.getElem?_cons_succ, List.set_cons_zero, List.set_cons_succ, List.length_cons, List.length_nil, List.replicate, List.cons_append, List.nil_append, Nat.reduceAdd, Nat.reduceSub, Nat.reduceLT, Nat.reduceEqDiff, Option.bind_eq_bind, Option.bind_some, Option.map_some, decide_true, decide_false, ↓reduceIte, bne_self_eq_false, Bool.bne_true, Bool.bne_false, Bool.not_true, Bool.not_false, Bool.false_eq_true, pr3, pairV, pair0, pair1, h0, List.length_reverse, e1, h1']
theorem k10_x (x5 x6 : V) : exec (callN FNS (d+3)) K10 [.str (UMt m), mV m, .int (m.length : Int), .int (p1 : Int), .int (p2 : Int), x5, x6, pairV (pr4 (best T4 m.reverse))] σ = match A5 p1 m with
    | some x => some (.ret (ansV 5 x), [.str (UMt m), mV m, .int (m.length : Int), .int (p1 : Int), .int (p2 : Int), x5, x6, pairV (pr4 (best T4 m.reverse))], σ)
    | none => some (.next, [.str (UMt m), mV m, .int (m.length : Int), .int (p1 : Int), .int (p2 : Int), x5, x6, pairV (pr4 (best T4 m.reverse))], σ) := by
  unfold A5
  cases hb : best T4 m.reverse with
  | none =>
    unfold K10
    simp only [exec, evalX, evalXs, evalT, locV, mk, Stem.get, Stem.put, truthV, cmpV, retOf, binV, insetV, inlV, negV, minV, lenV, aatV, flat, setL, List.getElem?_cons_zero, List.getElem?_cons_succ, List.set_cons_zero, List.set_cons_succ, List.length_cons, List.length_nil, List.replicate, List.cons_append, List.nil_append, Nat.reduceAdd, Nat.reduceSub, Nat.reduceLT, Nat.reduceEqDiff, Option.bind_eq_bind, Option.bind_some, Option.map_some, decide_true, decide_false, ↓reduceIte, bne_self_eq_false, Bool.bne_true, Bool.bne_false, Bool.not_true, Bool.not_false, Bool.false_eq_true, pr4, pairV, pair0]
  | some k =>
    obtain ⟨f1, f2, f3⟩ := best_facts T4_ok hb
    obtain ⟨g1, g2, g3, g4⟩ := tb4 k f1
    have h0 : decide ((rs T4 k).reverse = []) = false := by
      rw [decide_eq_false_iff_not]
      intro h
      have := congrArg List.length h
      simp at this
      rw [this] at g3; simp at g3
    have e1 : (m.length : Int) - ((rs T4 k).length : Int) = ((m.length - (rs T4 k).length : Nat) : Int) := by omega
    by_cases h1 : p1 + (rs T4 k).length ≤ m.length
    · have h1' : (p1 : Int) ≤ ((m.length - (rs T4 k).length : Nat) : Int) := by omega
      have hln : ((UMt m).take (m.length - (rs T4 k).length)).length + (rep4 k).length ≤ sizeMax := by
        have : ((UMt m).take (m.length - (rs T4 k).length)).length ≤ 100 := by rw [List.length_take, UMt_len]; omega
        have := (T4_res k f1).2.2
        show _ ≤ 2 ^ 20; omega
      have hres : UMt (m.take (m.length - (rs T4 k).length) ++ rep4 k) = (UMt m).take (m.length - (rs T4 k).length) ++ rep4 k := by
        rw [UMt_take]
        have : UMt (m.take (m.length - (rs T4 k).length) ++ rep4 k) = UMt (m.take (m.length - (rs T4 k).length)) ++ UMt (rep4 k) := by unfold UMt; rw [List.map_append]
        rw [this, g4]
      simp only [if_pos h1]
      unfold K10
      simp only [exec, evalX, evalXs, evalT, locV, mk, Stem.get, Stem.put, truthV, cmpV, retOf, binV, insetV, inlV, negV, minV, lenV, aatV, flat, setL, List.getElem?_cons_zero, List.getElem?_cons_succ, List.set_cons_zero, List.set_cons_succ, List.length_cons, List.length_nil, List.replicate, List.cons_append, List.nil_append, Nat.reduceAdd, Nat.reduceSub, Nat.reduceLT, Nat.reduceEqDiff, Option.bind_eq_bind, Option.bind_some, Option.map_some, decide_true, decide_false, ↓reduceIte, bne_self_eq_false, Bool.bne_true, Bool.bne_false, Bool.not_true, Bool.not_false, Bool.false_eq_true, pr4, pairV, pair0, pair1, h0, List.length_reverse, e1, h1', slc_hi2, hln, ansV, hres]
      rfl
    · have h1' : ¬ (p1 : Int) ≤ ((m.length - (rs T4 k).length : Nat) : Int) := by omega
      simp only [if_neg h1]
      unfold K10
      simp only [exec, evalX, evalXs, evalT, locV, mk, Stem.get, Stem.put, truthV, cmpV, retOf, binV, insetV, inlV, negV, minV, lenV, aatV, flat, setL, List.getElem?_cons_zero, List.getElem?_cons_succ, List.set_cons_zero, List.set_cons_succ, List.length_cons, List.length_nil, List.replicate, List.cons_append, List.nil_append, Nat.reduceAdd, Nat.reduceSub, Nat.reduceLT, Nat.reduceEqDiff, Option.bind_eq_bind, Option.bind_some, Option.map_some, decide_true, decide_false, ↓reduceIte, bne_self_eq_false, Bool.bne_true, Bool.bne_false, Bool.not_true, Bool.not_false, Bool.false_eq_true, pr4, pairV, pair0, pair1, h0, List.length_reverse, e1, h1']
theorem k12_x (x5 x6 : V) : ∃ x6', exec (callN FNS (d+3)) K12 [.str (UMt m), mV m, .int (m.length : Int), .int (p1 : Int), .int (p2 : Int), x5, x6, pairV (pr5 (best T5 m.reverse))] σ = match A6 p2 m with
    | some x => some (.ret (ansV 6 x), [.str (UMt m), mV m, .int (m.length : Int), .int (p1 : Int), .int (p2 : Int), x5, x6', pairV (pr5 (best T5 m.reverse))], σ)
    | none => some (.next, [.str (UMt m), mV m, .int (m.length : Int), .int (p1 : Int), .int (p2 : Int), x5, x6', pairV (pr5 (best T5 m.reverse))], σ) := by
  unfold A6 sfx
  cases hb : best T5 m.reverse with
  | none =>
    refine ⟨x6, ?_⟩
    unfold K12
    simp only [exec, evalX, evalXs, evalT, locV, mk, Stem.get, Stem.put, truthV, cmpV, retOf, binV, insetV, inlV, negV, minV, lenV, aatV, flat, setL, List.getElem?_cons_zero, List.getElem?_cons_succ, List.set_cons_zero, List.set_cons_succ, List.length_cons, List.length_nil, List.replicate, List.cons_append, List.nil_append, Nat.reduceAdd, Nat.reduceSub, Nat.reduceLT, Nat.reduceEqDiff, Option.bind_eq_bind, Option.bind_some, Option.map_some, decide_true, decide_false, ↓reduceIte, bne_self_eq_false, Bool.bne_true, Bool.bne_false, Bool.not_true, Bool.not_false, Bool.false_eq_true, pr5, pairV, pair0]
  | some k =>
    obtain ⟨f1, f2, f3⟩ := best_facts T5_ok hb
    obtain ⟨g1, g2, g3, g4⟩ := tb5 k f1
    have h0 : decide ((rs T5 k).reverse = []) = false := by
      rw [decide_eq_false_iff_not]
      intro h
      have := congrArg List.length h
      simp at this
      rw [this] at g3; simp at g3
    have e1 : (m.length : Int) - ((rs T5 k).length : Int) = ((m.length - (rs T5 k).length : Nat) : Int) := by omega
    have u1 := sfx_un [115] (m.take (m.length - (rs T5 k).length)) (by decide)
    have u2 := sfx_un [116] (m.take (m.length - (rs T5 k).length)) (by decide)
    rw [← UMt_take] at u1 u2
    have ha : ansV 6 (m.take (m.length - (rs T5 k).length)) = .tup [.int 6, .str ((UMt m).take (m.length - (rs T5 k).length))] := by unfold ansV; rw [UMt_take]; rfl
    by_cases h1 : p2 + (rs T5 k).length ≤ m.length
    · have h1' : (p2 : Int) ≤ ((m.length - (rs T5 k).length : Nat) : Int) := by omega
      simp only [if_pos h1]
      refine ⟨.str ((UMt m).take (m.length - (rs T5 k).length)), ?_⟩
      by_cases h2 : k = 11
      · have h2' : decide ((rs T5 k).reverse = [105, 111, 110]) = true := by rw [decide_eq_true_iff]; exact g4.2 h2
        cases h3 : List.isSuffixOf [115] (m.take (m.length - (rs T5 k).length))
        · rw [h3] at u1
          cases h4 : List.isSuffixOf [116] (m.take (m.length - (rs T5 k).length))
          · rw [h4] at u2
            rw [if_neg (by simp [h2])]
            unfold K12
            simp only [exec, evalX, evalXs, evalT, locV, mk, Stem.get, Stem.put, truthV, cmpV, retOf, binV, insetV, inlV, negV, minV, lenV, aatV, flat, setL, List.getElem?_cons_zero, List.getElem?_cons_succ, List.set_cons_zero, List.set_cons_succ, List.length_cons, List.length_nil, List.replicate, List.cons_append, List.nil_append, Nat.reduceAdd, Nat.reduceSub, Nat.reduceLT, Nat.reduceEqDiff, Option.bind_eq_bind, Option.bind_some, Option.map_some, decide_true, decide_false, ↓reduceIte, bne_self_eq_false, Bool.bne_true, Bool.bne_false, Bool.not_true, Bool.not_false, Bool.false_eq_true, pr5, pairV, pair0, pair1, h0, List.length_reverse, e1, h1', slc_hi2, h2', endswV, u1, u2]
          · rw [h4] at u2
            rw [if_pos (Or.inr (Or.inr rfl))]
            dsimp only
            rw [ha]
            unfold K12
            simp only [exec, evalX, evalXs, evalT, locV, mk, Stem.get, Stem.put, truthV, cmpV, retOf, binV, insetV, inlV, negV, minV, lenV, aatV, flat, setL, List.getElem?_cons_zero, List.getElem?_cons_succ, List.set_cons_zero, List.set_cons_succ, List.length_cons, List.length_nil, List.replicate, List.cons_append, List.nil_append, Nat.reduceAdd, Nat.reduceSub, Nat.reduceLT, Nat.reduceEqDiff, Option.bind_eq_bind, Option.bind_some, Option.map_some, decide_true, decide_false, ↓reduceIte, bne_self_eq_false, Bool.bne_true, Bool.bne_false, Bool.not_true, Bool.not_false, Bool.false_eq_true, pr5, pairV, pair0, pair1, h0, List.length_reverse, e1, h1', slc_hi2, h2', endswV, u1, u2]
        · rw [h3] at u1
          rw [if_pos (Or.inr (Or.inl rfl))]
          dsimp only
          rw [ha]
          unfold K12
          simp only [exec, evalX, evalXs, evalT, locV, mk, Stem.get, Stem.put, truthV, cmpV, retOf, binV, insetV, inlV, negV, minV, lenV, aatV, flat, setL, List.getElem?_cons_zero, List.getElem?_cons_succ, List.set_cons_zero, List.set_cons_succ, List.length_cons, List.length_nil, List.replicate, List.cons_append, List.nil_append, Nat.reduceAdd, Nat.reduceSub, Nat.reduceLT, Nat.reduceEqDiff, Option.bind_eq_bind, Option.bind_some, Option.map_some, decide_true, decide_false, ↓reduceIte, bne_self_eq_false, Bool.bne_true, Bool.bne_false, Bool.not_true, Bool.not_false, Bool.false_eq_true, pr5, pairV, pair0, pair1, h0, List.length_reverse, e1, h1', slc_hi2, h2', endswV, u1]
      · have h2' : decide ((rs T5 k).reverse = [105, 111, 110]) = false := by rw [decide_eq_false_iff_not]; exact fun h => h2 (g4.1 h)
        rw [if_pos (Or.inl h2)]
        dsimp only
        rw [ha]
        unfold K12
        simp only [exec, evalX, evalXs, evalT, locV, mk, Stem.get, Stem.put, truthV, cmpV, retOf, binV, insetV, inlV, negV, minV, lenV, aatV, flat, setL, List.getElem?_cons_zero, List.getElem?_cons_succ, List.set_cons_zero, List.set_cons_succ, List.length_cons, List.length_nil, List.replicate, List.cons_append, List.nil_append, Nat.reduceAdd, Nat.reduceSub, Nat.reduceLT, Nat.reduceEqDiff, Option.bind_eq_bind, Option.bind_some, Option.map_some, decide_true, decide_false, ↓reduceIte, bne_self_eq_false, Bool.bne_true, Bool.bne_false, Bool.not_true, Bool.not_false, Bool.false_eq_true, pr5, pairV, pair0, pair1, h0, List.length_reverse, e1, h1', slc_hi2, h2']
    · have h1' : ¬ (p2 : Int) ≤ ((m.length - (rs T5 k).length : Nat) : Int) := by omega
      simp only [if_neg h1]
      refine ⟨x6, ?_⟩
      unfold K12
      simp only [exec, evalX, evalXs, evalT, locV, mk, Stem.get, Stem.put, truthV, cmpV, retOf, binV, insetV, inlV, negV, minV, lenV, aatV, flat, setL, List.getElem?_cons_zero, List.getElem?_cons_succ, List.set_cons_zero, List.set_cons_succ, List.length_cons, List.length_nil, List.replicate, List.cons_append, List.nil_append, Nat.reduceAdd, Nat.reduceSub, Nat.reduceLT, Nat.reduceEqDiff, Option.bind_eq_bind, Option.bind_some, Option.map_some, decide_true, decide_false, ↓reduceIte, bne_self_eq_false, Bool.bne_true, Bool.bne_false, Bool.not_true, Bool.not_false, Bool.false_eq_true, pr5, pairV, pair0, pair1, h0, List.length_reverse, e1, h1']
end
end Mine.C
end

section
set_option Elab.async false
set_option maxRecDepth 100000
set_option linter.unusedVariables false
set_option linter.unusedSimpArgs false
set_option linter.unusedSectionVars false
namespace Mine.C
theorem dbl_c (a : Nat) : ([[98], [100], [102], [103], [109], [110], [112], [114], [116]] : List Tx).contains [un a] = dblL.contains a := by
  have e : ([[98], [100], [102], [103], [109], [110], [112], [114], [116]] : List Tx).contains [un a] = dblL.contains (un a) := by
    unfold dblL
    simp only [List.contains_cons, List.contains_nil, Bool.or_false]
    have e : ∀ k : Nat, (([un a] : Tx) == [k]) = (un a == k) := by intro k; simp
    simp only [e]
  rw [e]
  unfold un
  by_cases h : a = 89
  · rw [if_pos h, h]; rfl
  · rw [if_neg h]
theorem dbl_in {a : Nat} (h : dblL.contains a = true) : a ≠ 89 ∧ a ≠ 121 := by
  constructor
  · intro e; rw [e] at h; exact absurd h (by decide)
  · intro e; rw [e] at h; exact absurd h (by decide)
theorem dbl_s (z : Tx) (a : Nat) (h : dblL.contains a = true) : List.isSuffixOf [un a] (UMt z) = dblR (a :: z.reverse) := by
  obtain ⟨h1, h2⟩ := dbl_in h
  have hu : un a = a := by unfold un; rw [if_neg h1]
  rw [hu]
  rcases last_or z with e | ⟨w, b, e⟩
  · rw [e]; rfl
  · have e1 : UMt z = UMt w ++ [un b] := by rw [e]; unfold UMt; simp
    have e2 : z.reverse = b :: w.reverse := by rw [e]; simp
    rw [e1, e2]
    show sfx [a] _ = _
    rw [sfx1, un_ne h1 h2]
    show _ = (decide (a = b) && dblL.contains a)
    rw [h, Bool.and_true]
    by_cases hab : a = b
    · simp [hab]
    · simp [hab]
theorem dbl_n (z : Tx) (a : Nat) (h : dblL.contains a = false) : dblR (a :: z.reverse) = false := by
  cases z.reverse with
  | nil => rfl
  | cons b r =>
    show (decide (a = b) && dblL.contains a) = false
    rw [h, Bool.and_false]
section
variable (d : Nat) (m : Tx) (p1 p2 : Nat) (σ : Sta) (hm : m.length ≤ 100)
include hm
theorem k5t_0 (cut : Nat) (x6 x7 : V) (hv : (m.take cut).any isV = false) : exec (callN FNS (d+3)) K5t [.str (UMt m), mV m, .int (m.length : Int), .int (p1 : Int), .int (p2 : Int), .int (cut : Int), x6, x7] σ = some (.next, [.str (UMt m), mV m, .int (m.length : Int), .int (p1 : Int), .int (p2 : Int), .int (cut : Int), x6, x7], σ) := by
  have hs := mV_slc m cut
  have ha := mV_any (m.take cut)
  obtain ⟨Q, hQ⟩ : ∃ Q, mV m = .list Q := ⟨_, rfl⟩
  obtain ⟨Q2, hQ2⟩ : ∃ Q, mV (m.take cut) = .list Q := ⟨_, rfl⟩
  rw [hQ, hQ2] at hs
  rw [hQ2, hv] at ha
  rw [hQ]
  unfold K5t
  simp only [exec, evalX, evalXs, evalT, locV, mk, Stem.get, Stem.put, truthV, cmpV, retOf, binV, insetV, inlV, negV, minV, lenV, aatV, flat, setL, List.getElem?_cons_zero, List.getElem?_cons_succ, List.set_cons_zero, List.set_cons_succ, List.length_cons, List.length_nil, List.replicate, List.cons_append, List.nil_append, Nat.reduceAdd, Nat.reduceSub, Nat.reduceLT, Nat.reduceEqDiff, Option.bind_eq_bind, Option.bind_some, Option.map_some, decide_true, decide_false, ↓reduceIte, bne_self_eq_false, Bool.bne_true, Bool.bne_false, Bool.not_true, Bool.not_false, Bool.false_eq_true, hs, ha]
theorem k5t_1 (cut : Nat) (hc : cut ≤ m.length) (x6 x7 : V) (hv : (m.take cut).any isV = true) : exec (callN FNS (d+3)) K5t [.str (UMt m), mV m, .int (m.length : Int), .int (p1 : Int), .int (p2 : Int), .int (cut : Int), x6, x7] σ = some (.ret (ansV 2 (tail2 p1 (m.take cut))), [.str (UMt m), mV m, .int (m.length : Int), .int (p1 : Int), .int (p2 : Int), .int (cut : Int), .str ((UMt m).take cut), x7], σ) := by
  have hs := mV_slc m cut
  have ha := mV_any (m.take cut)
  have hsh := short_x (d+1) (m.take cut) σ
  have hxl : (m.take cut).length = cut := by rw [List.length_take]; omega
  obtain ⟨Q, hQ⟩ : ∃ Q, mV m = .list Q := ⟨_, rfl⟩
  have hto := UMt_take m cut
  generalize hx : m.take cut = x at *
  rcases last_or x with e | ⟨z, a, e⟩
  · rw [e] at hv; cases hv
  have hzl : z.length = cut - 1 := by rw [← hxl, e]; simp
  have hc1 : 1 ≤ cut := by rw [← hxl, e]; simp
  have hux : UMt x = UMt z ++ [un a] := by rw [e]; unfold UMt; simp
  have hd : (UMt x).drop (cut - 1) = [un a] := by
    rw [hux, ← hzl, ← UMt_len z, List.drop_left]
  have htk : (UMt x).take (cut - 1) = UMt z := by
    rw [hux, ← hzl, ← UMt_len z, List.take_left]
  have e1 : (cut : Int) - 1 = ((cut - 1 : Nat) : Int) := by omega
  have hln : (UMt x).length + ([101] : Tx).length ≤ sizeMax := by
    rw [UMt_len, hxl]; show _ ≤ 2 ^ 20; simp; omega
  have hln2 : (UMt x).length + 1 ≤ sizeMax := hln
  have u1 := sfx_un [97, 116] x (by decide)
  have u2 := sfx_un [98, 108] x (by decide)
  have u3 := sfx_un [105, 122] x (by decide)
  have hre : UMt (x ++ [101]) = UMt x ++ [101] := by unfold UMt; simp; rfl
  have hte : UMt (x.take (x.length - 1)) = (UMt x).take (cut - 1) := by rw [hxl, UMt_take]
  obtain ⟨Q2, hQ2⟩ : ∃ Q, mV x = .list Q := ⟨_, rfl⟩
  rw [hQ, hQ2] at hs
  rw [hQ2, hv] at ha
  rw [hQ2] at hsh
  rw [hQ, hto]
  have hrx : x.reverse = a :: z.reverse := by rw [e]; simp
  have hdc := dbl_c a
  unfold tail2 sfx K5t
  by_cases hP : (List.isSuffixOf [97, 116] x || List.isSuffixOf [98, 108] x || List.isSuffixOf [105, 122] x) = true
  · rw [if_pos hP]
    have ha2 : ansV 2 (x ++ [101]) = .tup [.int 2, .str (UMt x ++ [101])] := by unfold ansV; rw [hre]; rfl
    rw [ha2]
    cases q1 : List.isSuffixOf [97, 116] x
    · cases q2 : List.isSuffixOf [98, 108] x
      · have q3 : List.isSuffixOf [105, 122] x = true := by rw [q1, q2] at hP; simpa using hP
        rw [q1] at u1; rw [q2] at u2; rw [q3] at u3
        simp only [exec, evalX, evalXs, evalT, locV, mk, Stem.get, Stem.put, truthV, cmpV, retOf, binV, insetV, inlV, negV, minV, lenV, aatV, flat, setL, List.getElem?_cons_zero, List.getElem?_cons_succ, List.set_cons_zero, List.set_cons_succ, List.length_cons, List.length_nil, List.replicate, List.cons_append, List.nil_append, Nat.reduceAdd, Nat.reduceSub, Nat.reduceLT, Nat.reduceEqDiff, Option.bind_eq_bind, Option.bind_some, Option.map_some, decide_true, decide_false, ↓reduceIte, bne_self_eq_false, Bool.bne_true, Bool.bne_false, Bool.not_true, Bool.not_false, Bool.false_eq_true, hs, ha, slc_hi2, hto, endswV, u1, u2, u3, hln2]
      · rw [q1] at u1; rw [q2] at u2
        simp only [exec, evalX, evalXs, evalT, locV, mk, Stem.get, Stem.put, truthV, cmpV, retOf, binV, insetV, inlV, negV, minV, lenV, aatV, flat, setL, List.getElem?_cons_zero, List.getElem?_cons_succ, List.set_cons_zero, List.set_cons_succ, List.length_cons, List.length_nil, List.replicate, List.cons_append, List.nil_append, Nat.reduceAdd, Nat.reduceSub, Nat.reduceLT, Nat.reduceEqDiff, Option.bind_eq_bind, Option.bind_some, Option.map_some, decide_true, decide_false, ↓reduceIte, bne_self_eq_false, Bool.bne_true, Bool.bne_false, Bool.not_true, Bool.not_false, Bool.false_eq_true, hs, ha, slc_hi2, hto, endswV, u1, u2, hln2]
    · rw [q1] at u1
      simp only [exec, evalX, evalXs, evalT, locV, mk, Stem.get, Stem.put, truthV, cmpV, retOf, binV, insetV, inlV, negV, minV, lenV, aatV, flat, setL, List.getElem?_cons_zero, List.getElem?_cons_succ, List.set_cons_zero, List.set_cons_succ, List.length_cons, List.length_nil, List.replicate, List.cons_append, List.nil_append, Nat.reduceAdd, Nat.reduceSub, Nat.reduceLT, Nat.reduceEqDiff, Option.bind_eq_bind, Option.bind_some, Option.map_some, decide_true, decide_false, ↓reduceIte, bne_self_eq_false, Bool.bne_true, Bool.bne_false, Bool.not_true, Bool.not_false, Bool.false_eq_true, hs, ha, slc_hi2, hto, endswV, u1, hln2]
  · rw [if_neg hP]
    simp only [Bool.or_eq_true, not_or, Bool.not_eq_true] at hP
    obtain ⟨⟨q1, q2⟩, q3⟩ := hP
    rw [q1] at u1; rw [q2] at u2; rw [q3] at u3
    have hsl := slc_hi (UMt x) (cut - 1)
    rw [hd] at hsl
    have hsl2 := slc_hi2 (UMt x) (cut - 1)
    rw [htk] at hsl2
    by_cases hD : dblR x.reverse = true
    · rw [if_pos hD]
      have ha2 : ansV 2 (x.take (x.length - 1)) = .tup [.int 2, .str (UMt z)] := by unfold ansV; rw [hte, htk]; rfl
      rw [ha2]
      rw [hrx] at hD
      cases hcc : dblL.contains a
      · rw [dbl_n z a hcc] at hD; cases hD
      · rw [hcc] at hdc
        have hds := dbl_s z a hcc
        rw [hD] at hds
        simp only [exec, evalX, evalXs, evalT, locV, mk, Stem.get, Stem.put, truthV, cmpV, retOf, binV, insetV, inlV, negV, minV, lenV, aatV, flat, setL, List.getElem?_cons_zero, List.getElem?_cons_succ, List.set_cons_zero, List.set_cons_succ, List.length_cons, List.length_nil, List.replicate, List.cons_append, List.nil_append, Nat.reduceAdd, Nat.reduceSub, Nat.reduceLT, Nat.reduceEqDiff, Option.bind_eq_bind, Option.bind_some, Option.map_some, decide_true, decide_false, ↓reduceIte, bne_self_eq_false, Bool.bne_true, Bool.bne_false, Bool.not_true, Bool.not_false, Bool.false_eq_true, hs, ha, slc_hi2 (UMt m), hto, endswV, u1, u2, u3, e1, hsl, hsl2, hdc, hds]
    · rw [if_neg hD]
      have hD2 : dblR (a :: z.reverse) = false := by rw [← hrx]; cases hx : dblR x.reverse; · rfl
                                                     · exact absurd hx hD
      by_cases hS : x.length = p1 ∧ shR x.reverse = true
      · rw [if_pos hS]
        have ha2 : ansV 2 (x ++ [101]) = .tup [.int 2, .str (UMt x ++ [101])] := by unfold ansV; rw [hre]; rfl
        rw [ha2]
        have hcp : decide ((cut : Int) = (p1 : Int)) = true := by rw [decide_eq_true_iff, ← hxl, hS.1]
        rw [hS.2] at hsh
        cases hcc : dblL.contains a
        · rw [hcc] at hdc
          simp only [exec, evalX, evalXs, evalT, locV, mk, Stem.get, Stem.put, truthV, cmpV, retOf, binV, insetV, inlV, negV, minV, lenV, aatV, flat, setL, List.getElem?_cons_zero, List.getElem?_cons_succ, List.set_cons_zero, List.set_cons_succ, List.length_cons, List.length_nil, List.replicate, List.cons_append, List.nil_append, Nat.reduceAdd, Nat.reduceSub, Nat.reduceLT, Nat.reduceEqDiff, Option.bind_eq_bind, Option.bind_some, Option.map_some, decide_true, decide_false, ↓reduceIte, bne_self_eq_false, Bool.bne_true, Bool.bne_false, Bool.not_true, Bool.not_false, Bool.false_eq_true, hs, ha, slc_hi2 (UMt m), hto, endswV, u1, u2, u3, e1, hsl, hsl2, hdc, hcp, hsh, hln2]
        · rw [hcc] at hdc
          have hds := dbl_s z a hcc
          rw [hD2] at hds
          simp only [exec, evalX, evalXs, evalT, locV, mk, Stem.get, Stem.put, truthV, cmpV, retOf, binV, insetV, inlV, negV, minV, lenV, aatV, flat, setL, List.getElem?_cons_zero, List.getElem?_cons_succ, List.set_cons_zero, List.set_cons_succ, List.length_cons, List.length_nil, List.replicate, List.cons_append, List.nil_append, Nat.reduceAdd, Nat.reduceSub, Nat.reduceLT, Nat.reduceEqDiff, Option.bind_eq_bind, Option.bind_some, Option.map_some, decide_true, decide_false, ↓reduceIte, bne_self_eq_false, Bool.bne_true, Bool.bne_false, Bool.not_true, Bool.not_false, Bool.false_eq_true, hs, ha, slc_hi2 (UMt m), hto, endswV, u1, u2, u3, e1, hsl, hsl2, hdc, hds, hcp, hsh, hln2]
      · rw [if_neg hS]
        have ha2 : ansV 2 x = .tup [.int 2, .str (UMt x)] := rfl
        rw [ha2]
        by_cases hp : x.length = p1
        · have hcp : decide ((cut : Int) = (p1 : Int)) = true := by rw [decide_eq_true_iff, ← hxl, hp]
          have hS2 : shR x.reverse = false := by
            cases h : shR x.reverse
            · rfl
            · exact absurd ⟨hp, h⟩ hS
          rw [hS2] at hsh
          cases hcc : dblL.contains a
          · rw [hcc] at hdc
            simp only [exec, evalX, evalXs, evalT, locV, mk, Stem.get, Stem.put, truthV, cmpV, retOf, binV, insetV, inlV, negV, minV, lenV, aatV, flat, setL, List.getElem?_cons_zero, List.getElem?_cons_succ, List.set_cons_zero, List.set_cons_succ, List.length_cons, List.length_nil, List.replicate, List.cons_append, List.nil_append, Nat.reduceAdd, Nat.reduceSub, Nat.reduceLT, Nat.reduceEqDiff, Option.bind_eq_bind, Option.bind_some, Option.map_some, decide_true, decide_false, ↓reduceIte, bne_self_eq_false, Bool.bne_true, Bool.bne_false, Bool.not_true, Bool.not_false, Bool.false_eq_true, hs, ha, slc_hi2 (UMt m), hto, endswV, u1, u2, u3, e1, hsl, hsl2, hdc, hcp, hsh]
          · rw [hcc] at hdc
            have hds := dbl_s z a hcc
            rw [hD2] at hds
            simp only [exec, evalX, evalXs, evalT, locV, mk, Stem.get, Stem.put, truthV, cmpV, retOf, binV, insetV, inlV, negV, minV, lenV, aatV, flat, setL, List.getElem?_cons_zero, List.getElem?_cons_succ, List.set_cons_zero, List.set_cons_succ, List.length_cons, List.length_nil, List.replicate, List.cons_append, List.nil_append, Nat.reduceAdd, Nat.reduceSub, Nat.reduceLT, Nat.reduceEqDiff, Option.bind_eq_bind, Option.bind_some, Option.map_some, decide_true, decide_false, ↓reduceIte, bne_self_eq_false, Bool.bne_true, Bool.bne_false, Bool.not_true, Bool.not_false, Bool.false_eq_true, hs, ha, slc_hi2 (UMt m), hto, endswV, u1, u2, u3, e1, hsl, hsl2, hdc, hds, hcp, hsh]
        · have hcp : decide ((cut : Int) = (p1 : Int)) = false := by rw [decide_eq_false_iff_not, ← hxl]; omega
          cases hcc : dblL.contains a
          · rw [hcc] at hdc
            simp only [exec, evalX, evalXs, evalT, locV, mk, Stem.get, Stem.put, truthV, cmpV, retOf, binV, insetV, inlV, negV, minV, lenV, aatV, flat, setL, List.getElem?_cons_zero, List.getElem?_cons_succ, List.set_cons_zero, List.set_cons_succ, List.length_cons, List.length_nil, List.replicate, List.cons_append, List.nil_append, Nat.reduceAdd, Nat.reduceSub, Nat.reduceLT, Nat.reduceEqDiff, Option.bind_eq_bind, Option.bind_some, Option.map_some, decide_true, decide_false, ↓reduceIte, bne_self_eq_false, Bool.bne_true, Bool.bne_false, Bool.not_true, Bool.not_false, Bool.false_eq_true, hs, ha, slc_hi2 (UMt m), hto, endswV, u1, u2, u3, e1, hsl, hsl2, hdc, hcp]
          · rw [hcc] at hdc
            have hds := dbl_s z a hcc
            rw [hD2] at hds
            simp only [exec, evalX, evalXs, evalT, locV, mk, Stem.get, Stem.put, truthV, cmpV, retOf, binV, insetV, inlV, negV, minV, lenV, aatV, flat, setL, List.getElem?_cons_zero, List.getElem?_cons_succ, List.set_cons_zero, List.set_cons_succ, List.length_cons, List.length_nil, List.replicate, List.cons_append, List.nil_append, Nat.reduceAdd, Nat.reduceSub, Nat.reduceLT, Nat.reduceEqDiff, Option.bind_eq_bind, Option.bind_some, Option.map_some, decide_true, decide_false, ↓reduceIte, bne_self_eq_false, Bool.bne_true, Bool.bne_false, Bool.not_true, Bool.not_false, Bool.false_eq_true, hs, ha, slc_hi2 (UMt m), hto, endswV, u1, u2, u3, e1, hsl, hsl2, hdc, hds, hcp]
theorem k5_x (x5 x6 x7 : V) : ∃ x5' x6', exec (callN FNS (d+3)) K5 [.str (UMt m), mV m, .int (m.length : Int), .int (p1 : Int), .int (p2 : Int), x5, x6, x7] σ = match A2 p1 m with
    | some x => some (.ret (ansV 2 x), [.str (UMt m), mV m, .int (m.length : Int), .int (p1 : Int), .int (p2 : Int), x5', x6', x7], σ)
    | none => some (.next, [.str (UMt m), mV m, .int (m.length : Int), .int (p1 : Int), .int (p2 : Int), x5', x6', x7], σ) := by
  have u0 := sfx_un [101, 100] m (by decide)
  have u1 := sfx_un [101, 101, 100] m (by decide)
  have u2 := sfx_un [105, 110, 103] m (by decide)
  unfold A2 sfx
  rw [K5_eq]
  cases h1 : List.isSuffixOf [101, 101, 100] m
  · rw [h1] at u1
    rw [if_neg (by simp)]
    cases h0 : List.isSuffixOf [101, 100] m
    · rw [h0] at u0
      rw [if_neg (by simp)]
      cases h2 : List.isSuffixOf [105, 110, 103] m
      · rw [h2] at u2
        rw [if_neg (by simp)]
        refine ⟨x5, x6, ?_⟩
        simp only [exec, evalX, evalXs, evalT, locV, mk, Stem.get, Stem.put, truthV, cmpV, retOf, binV, insetV, inlV, negV, minV, lenV, aatV, flat, setL, List.getElem?_cons_zero, List.getElem?_cons_succ, List.set_cons_zero, List.set_cons_succ, List.length_cons, List.length_nil, List.replicate, List.cons_append, List.nil_append, Nat.reduceAdd, Nat.reduceSub, Nat.reduceLT, Nat.reduceEqDiff, Option.bind_eq_bind, Option.bind_some, Option.map_some, decide_true, decide_false, ↓reduceIte, bne_self_eq_false, Bool.bne_true, Bool.bne_false, Bool.not_true, Bool.not_false, Bool.false_eq_true, endswV, u0, u1, u2]
      · have hn := sfx_len h2
        simp at hn
        rw [h2] at u2
        rw [if_pos rfl]
        have e1 : (m.length : Int) - 3 = ((m.length - 3 : Nat) : Int) := by omega
        cases hv : (m.take (m.length - 3)).any isV
        · rw [if_neg (by simp)]
          have ht := k5t_0 d m p1 p2 σ hm (m.length - 3) x6 x7 hv
          refine ⟨.int ((m.length - 3 : Nat) : Int), x6, ?_⟩
          simp only [exec, evalX, evalXs, evalT, locV, mk, Stem.get, Stem.put, truthV, cmpV, retOf, binV, insetV, inlV, negV, minV, lenV, aatV, flat, setL, List.getElem?_cons_zero, List.getElem?_cons_succ, List.set_cons_zero, List.set_cons_succ, List.length_cons, List.length_nil, List.replicate, List.cons_append, List.nil_append, Nat.reduceAdd, Nat.reduceSub, Nat.reduceLT, Nat.reduceEqDiff, Option.bind_eq_bind, Option.bind_some, Option.map_some, decide_true, decide_false, ↓reduceIte, bne_self_eq_false, Bool.bne_true, Bool.bne_false, Bool.not_true, Bool.not_false, Bool.false_eq_true, endswV, u0, u1, u2, e1, ht]
        · rw [if_pos rfl]
          have ht := k5t_1 d m p1 p2 σ hm (m.length - 3) (by omega) x6 x7 hv
          refine ⟨.int ((m.length - 3 : Nat) : Int), .str ((UMt m).take (m.length - 3)), ?_⟩
          simp only [exec, evalX, evalXs, evalT, locV, mk, Stem.get, Stem.put, truthV, cmpV, retOf, binV, insetV, inlV, negV, minV, lenV, aatV, flat, setL, List.getElem?_cons_zero, List.getElem?_cons_succ, List.set_cons_zero, List.set_cons_succ, List.length_cons, List.length_nil, List.replicate, List.cons_append, List.nil_append, Nat.reduceAdd, Nat.reduceSub, Nat.reduceLT, Nat.reduceEqDiff, Option.bind_eq_bind, Option.bind_some, Option.map_some, decide_true, decide_false, ↓reduceIte, bne_self_eq_false, Bool.bne_true, Bool.bne_false, Bool.not_true, Bool.not_false, Bool.false_eq_true, endswV, u0, u1, u2, e1, ht]
    · have hn := sfx_len h0
      simp at hn
      rw [h0] at u0
      rw [if_pos rfl]
      have e1 : (m.length : Int) - 2 = ((m.length - 2 : Nat) : Int) := by omega
      cases hv : (m.take (m.length - 2)).any isV
      · rw [if_neg (by simp)]
        have ht := k5t_0 d m p1 p2 σ hm (m.length - 2) x6 x7 hv
        refine ⟨.int ((m.length - 2 : Nat) : Int), x6, ?_⟩
        simp only [exec, evalX, evalXs, evalT, locV, mk, Stem.get, Stem.put, truthV, cmpV, retOf, binV, insetV, inlV, negV, minV, lenV, aatV, flat, setL, List.getElem?_cons_zero, List.getElem?_cons_succ, List.set_cons_zero, List.set_cons_succ, List.length_cons, List.length_nil, List.replicate, List.cons_append, List.nil_append, Nat.reduceAdd, Nat.reduceSub, Nat.reduceLT, Nat.reduceEqDiff, Option.bind_eq_bind, Option.bind_some, Option.map_some, decide_true, decide_false, ↓reduceIte, bne_self_eq_false, Bool.bne_true, Bool.bne_false, Bool.not_true, Bool.not_false, Bool.false_eq_true, endswV, u0, u1, e1, ht]
      · rw [if_pos rfl]
        have ht := k5t_1 d m p1 p2 σ hm (m.length - 2) (by omega) x6 x7 hv
        refine ⟨.int ((m.length - 2 : Nat) : Int), .str ((UMt m).take (m.length - 2)), ?_⟩
        simp only [exec, evalX, evalXs, evalT, locV, mk, Stem.get, Stem.put, truthV, cmpV, retOf, binV, insetV, inlV, negV, minV, lenV, aatV, flat, setL, List.getElem?_cons_zero, List.getElem?_cons_succ, List.set_cons_zero, List.set_cons_succ, List.length_cons, List.length_nil, List.replicate, List.cons_append, List.nil_append, Nat.reduceAdd, Nat.reduceSub, Nat.reduceLT, Nat.reduceEqDiff, Option.bind_eq_bind, Option.bind_some, Option.map_some, decide_true, decide_false, ↓reduceIte, bne_self_eq_false, Bool.bne_true, Bool.bne_false, Bool.not_true, Bool.not_false, Bool.false_eq_true, endswV, u0, u1, e1, ht]
  · have hn := sfx_len h1
    simp at hn
    rw [h1] at u1
    rw [if_pos rfl]
    have e1 : (m.length : Int) - 1 = ((m.length - 1 : Nat) : Int) := by omega
    refine ⟨x5, x6, ?_⟩
    by_cases h3 : p1 + 3 ≤ m.length
    · have h3' : (p1 : Int) ≤ (m.length : Int) - 3 := by omega
      rw [if_pos h3]
      simp only [exec, evalX, evalXs, evalT, locV, mk, Stem.get, Stem.put, truthV, cmpV, retOf, binV, insetV, inlV, negV, minV, lenV, aatV, flat, setL, List.getElem?_cons_zero, List.getElem?_cons_succ, List.set_cons_zero, List.set_cons_succ, List.length_cons, List.length_nil, List.replicate, List.cons_append, List.nil_append, Nat.reduceAdd, Nat.reduceSub, Nat.reduceLT, Nat.reduceEqDiff, Option.bind_eq_bind, Option.bind_some, Option.map_some, decide_true, decide_false, ↓reduceIte, bne_self_eq_false, Bool.bne_true, Bool.bne_false, Bool.not_true, Bool.not_false, Bool.false_eq_true, endswV, u1, h3', e1, slc_hi2, ansV, UMt_take]
      rfl
    · have h3' : ¬ (p1 : Int) ≤ (m.length : Int) - 3 := by omega
      rw [if_neg h3]
      simp only [exec, evalX, evalXs, evalT, locV, mk, Stem.get, Stem.put, truthV, cmpV, retOf, binV, insetV, inlV, negV, minV, lenV, aatV, flat, setL, List.getElem?_cons_zero, List.getElem?_cons_succ, List.set_cons_zero, List.set_cons_succ, List.length_cons, List.length_nil, List.replicate, List.cons_append, List.nil_append, Nat.reduceAdd, Nat.reduceSub, Nat.reduceLT, Nat.reduceEqDiff, Option.bind_eq_bind, Option.bind_some, Option.map_some, decide_true, decide_false, ↓reduceIte, bne_self_eq_false, Bool.bne_true, Bool.bne_false, Bool.not_true, Bool.not_false, Bool.false_eq_true, endswV, u1, h3']
end
end Mine.C
end

section
set_option Elab.async false
set_option maxRecDepth 100000
set_option linter.unusedVariables false
set_option linter.unusedSimpArgs false
set_option linter.unusedSectionVars false
namespace Mine.C
def LOOKT : S := (.seq K4 (.seq K5 (.seq K6 (.seq (.asg 7 (.call 32 (.cons (.glb 11) (.cons (.loc 0) .nil)))) (.seq K8 (.seq (.asg 7 (.call 32 (.cons (.glb 12) (.cons (.loc 0) .nil)))) (.seq K10 (.seq (.asg 7 (.call 32 (.cons (.glb 13) (.cons (.loc 0) .nil)))) (.seq K12 (.seq K13 (.seq K14 (.seq (.ret (.tup (.cons (.cst (.int 0)) (.cons (.loc 0) .nil)))) .skip))))))))))))
theorem b33_eq2 : b33 = (.seq (.asg 1 (.call 29 (.cons (.loc 0) .nil))) (.seq (.asg 2 (.len (.loc 0))) (.seq (.asg 3 (.call 30 (.cons (.loc 1) (.cons (.cst (.int 0)) .nil)))) (.seq (.asg 4 (.call 30 (.cons (.loc 1) (.cons (.loc 3) .nil)))) LOOKT)))) := rfl
theorem call_of (Φ : Phi) {ρ : List V} {f : Nat} {as : Xs} {vs : List V} {σ σ' : Sta} (h : evalXs Φ ρ as σ = some (vs, σ')) : evalX Φ ρ (.call f as) σ = Φ f vs σ' := by
  show (evalXs Φ ρ as σ >>= _) = _
  rw [h]; rfl
theorem loc1_of (Φ : Phi) (a : V) (Q : List V) (r : List V) (z : V) (σ : Sta) : evalXs Φ (a :: .list Q :: r) (.cons (.loc 1) (.cons (.cst z) .nil)) σ = some ([.list Q, z], σ) := rfl
theorem loc13_of (Φ : Phi) (a b : V) (Q : List V) (i : Int) (r : List V) (σ : Sta) : evalXs Φ (a :: .list Q :: b :: .int i :: r) (.cons (.loc 1) (.cons (.loc 3) .nil)) σ = some ([.list Q, .int i], σ) := rfl
theorem call33 (d : Nat) (a : V) (σ : Sta) : callN FNS (d+1) 33 [a] σ = retOf (exec (callN FNS d) b33 [a, .undef, .undef, .undef, .undef, .undef, .undef, .undef] σ) := rfl
theorem marked_x (d : Nat) (t : Tx) (ht : t.length ≤ 100) (σ : Sta) : callN FNS (d+1) 29 [.str t] σ = some (mV (mkd t), σ) := by
  show (markedV (.str t)).map (fun x => (x, σ)) = _
  unfold markedV
  dsimp only
  rw [if_pos (by omega)]
  rfl
theorem mkd_len (t : Tx) : (mkd t).length = t.length := by
  have h2 : ∀ (r a : Tx), (markTx a r).length = r.length := by
    intro r
    induction r with
    | nil => intro a; rfl
    | cons c r ih => intro a; simp [markTx, ih]
  exact h2 t []
theorem asg_of (Φ : Phi) {i : Nat} {a : X} {ρ : List V} {σ σ' : Sta} {v : V} (h : evalX Φ ρ a σ = some (v, σ')) (hi : i < ρ.length) : exec Φ (.asg i a) ρ σ = some (.next, ρ.set i v, σ') := by
  show (evalX Φ ρ a σ >>= _) = _
  rw [h]
  show (setL ρ i v >>= fun ρ => some (Fl.next, ρ, σ')) = _
  unfold setL
  rw [if_pos hi]
  rfl
section
variable (d : Nat) (m : Tx) (p1 p2 : Nat) (σ : Sta) (hm : m.length ≤ 100)
include hm
theorem a7_3 (x5 x6 x7 : V) : exec (callN FNS (d+3)) (.asg 7 (.call 32 (.cons (.glb 11) (.cons (.loc 0) .nil)))) [.str (UMt m), mV m, .int (m.length : Int), .int (p1 : Int), .int (p2 : Int), x5, x6, x7] σ = some (.next, [.str (UMt m), mV m, .int (m.length : Int), .int (p1 : Int), .int (p2 : Int), x5, x6, pairV (pr3 (best T3 m.reverse))], σ) := by
  refine asg_of _ ?_ (by simp)
  show callN FNS (d+3) 32 [vTWO, .str (UMt m)] σ = _
  rw [prs3_v, longest_x (d+2) prs3 (UMt m) σ, lg3]
theorem a7_4 (x5 x6 x7 : V) : exec (callN FNS (d+3)) (.asg 7 (.call 32 (.cons (.glb 12) (.cons (.loc 0) .nil)))) [.str (UMt m), mV m, .int (m.length : Int), .int (p1 : Int), .int (p2 : Int), x5, x6, x7] σ = some (.next, [.str (UMt m), mV m, .int (m.length : Int), .int (p1 : Int), .int (p2 : Int), x5, x6, pairV (pr4 (best T4 m.reverse))], σ) := by
  refine asg_of _ ?_ (by simp)
  show callN FNS (d+3) 32 [vTHREE, .str (UMt m)] σ = _
  rw [prs4_v, longest_x (d+2) prs4 (UMt m) σ, lg4]
theorem a7_5 (x5 x6 x7 : V) : exec (callN FNS (d+3)) (.asg 7 (.call 32 (.cons (.glb 13) (.cons (.loc 0) .nil)))) [.str (UMt m), mV m, .int (m.length : Int), .int (p1 : Int), .int (p2 : Int), x5, x6, x7] σ = some (.next, [.str (UMt m), mV m, .int (m.length : Int), .int (p1 : Int), .int (p2 : Int), x5, x6, pairV (pr5 (best T5 m.reverse))], σ) := by
  refine asg_of _ ?_ (by simp)
  show callN FNS (d+3) 32 [vFOUR, .str (UMt m)] σ = _
  rw [prs5_v, longest_x (d+2) prs5 (UMt m) σ, lg5]
theorem look_t : ∃ ρ', exec (callN FNS (d+3)) LOOKT [.str (UMt m), mV m, .int (m.length : Int), .int (p1 : Int), .int (p2 : Int), .undef, .undef, .undef] σ = some (.ret (ansV (lk p1 p2 m).1 (lk p1 p2 m).2), ρ', σ) := by
  unfold LOOKT
  have s4 := k4_x d m σ hm [.int (p1 : Int), .int (p2 : Int), .undef, .undef, .undef]
  cases h1 : A1 m with
  | some x =>
    rw [h1] at s4
    rw [seq_ret _ s4]
    simp only [lk, h1]
    exact ⟨_, rfl⟩
  | none =>
  rw [h1] at s4
  rw [seq_next _ s4]
  obtain ⟨x5, x6, s5⟩ := k5_x d m p1 p2 σ hm .undef .undef .undef
  cases h2 : A2 p1 m with
  | some x =>
    rw [h2] at s5
    rw [seq_ret _ s5]
    simp only [lk, h1, h2]
    exact ⟨_, rfl⟩
  | none =>
  rw [h2] at s5
  rw [seq_next _ s5]
  have s6 := k6_x d m p1 p2 σ hm x5 x6 .undef
  cases h3 : A3 m with
  | some x =>
    rw [h3] at s6
    rw [seq_ret _ s6]
    simp only [lk, h1, h2, h3]
    exact ⟨_, rfl⟩
  | none =>
  rw [h3] at s6
  rw [seq_next _ s6, seq_next _ (a7_3 d m p1 p2 σ hm x5 x6 .undef)]
  have s8 := k8_x d m p1 p2 σ hm x5 x6
  cases h4 : A4 p1 m with
  | some x =>
    rw [h4] at s8
    rw [seq_ret _ s8]
    simp only [lk, h1, h2, h3, h4]
    exact ⟨_, rfl⟩
  | none =>
  rw [h4] at s8
  rw [seq_next _ s8, seq_next _ (a7_4 d m p1 p2 σ hm x5 x6 _)]
  have s10 := k10_x d m p1 p2 σ hm x5 x6
  cases h5 : A5 p1 m with
  | some x =>
    rw [h5] at s10
    rw [seq_ret _ s10]
    simp only [lk, h1, h2, h3, h4, h5]
    exact ⟨_, rfl⟩
  | none =>
  rw [h5] at s10
  rw [seq_next _ s10, seq_next _ (a7_5 d m p1 p2 σ hm x5 x6 _)]
  obtain ⟨x6', s12⟩ := k12_x d m p1 p2 σ hm x5 x6
  cases h6 : A6 p2 m with
  | some x =>
    rw [h6] at s12
    rw [seq_ret _ s12]
    simp only [lk, h1, h2, h3, h4, h5, h6]
    exact ⟨_, rfl⟩
  | none =>
  rw [h6] at s12
  rw [seq_next _ s12]
  have s13 := k13_x d m p1 p2 σ hm x5 x6' (pairV (pr5 (best T5 m.reverse)))
  cases h7 : A7 p1 p2 m with
  | some x =>
    rw [h7] at s13
    rw [seq_ret _ s13]
    simp only [lk, h1, h2, h3, h4, h5, h6, h7]
    exact ⟨_, rfl⟩
  | none =>
  rw [h7] at s13
  rw [seq_next _ s13]
  have s14 := k14_x d m p1 p2 σ hm x5 x6' (pairV (pr5 (best T5 m.reverse)))
  cases h8 : A8 p2 m with
  | some x =>
    rw [h8] at s14
    rw [seq_ret _ s14]
    simp only [lk, h1, h2, h3, h4, h5, h6, h7, h8]
    exact ⟨_, rfl⟩
  | none =>
  rw [h8] at s14
  rw [seq_next _ s14]
  simp only [lk, h1, h2, h3, h4, h5, h6, h7, h8]
  exact ⟨_, rfl⟩
end
theorem look_x (d : Nat) (t : Tx) (σ : Sta) (ht : t.length ≤ 100) (h89 : no89 t) : callN FNS (d+4) 33 [.str t] σ = some (ansV (lk (R1 (mkd t)) (R2 (mkd t)) (mkd t)).1 (lk (R1 (mkd t)) (R2 (mkd t)) (mkd t)).2, σ) := by
  have hm : (mkd t).length ≤ 100 := by rw [mkd_len]; exact ht
  have hu : UMt (mkd t) = t := UMt_mark t [] h89
  have hml := mkd_len t
  obtain ⟨ρ', hl⟩ := look_t d (mkd t) (R1 (mkd t)) (R2 (mkd t)) σ hm
  have q0 : exec (callN FNS (d+3)) (.asg 1 (.call 29 (.cons (.loc 0) .nil))) [.str t, .undef, .undef, .undef, .undef, .undef, .undef, .undef] σ = some (.next, [.str t, mV (mkd t), .undef, .undef, .undef, .undef, .undef, .undef], σ) := by
    refine (asg_of _ (v := mV (mkd t)) (σ' := σ) ?_ (by simp)).trans rfl
    show callN FNS (d+3) 29 [.str t] σ = _
    exact marked_x (d+2) t ht σ
  have q1 : exec (callN FNS (d+3)) (.asg 2 (.len (.loc 0))) [.str t, mV (mkd t), .undef, .undef, .undef, .undef, .undef, .undef] σ = some (.next, [.str t, mV (mkd t), .int (t.length : Int), .undef, .undef, .undef, .undef, .undef], σ) := rfl
  have r1 := region_x (d+1) (mkd t) 0 (by omega) (by omega) σ
  have e1 : (((vc ((mkd t).drop 0)).map (0 + ·)).getD (mkd t).length) = R1 (mkd t) := by
    unfold R1
    rw [List.drop_zero]
    cases vc (mkd t) with
    | none => rfl
    | some k => simp
  rw [e1] at r1
  simp only [Int.natCast_zero] at r1
  have q2 : exec (callN FNS (d+3)) (.asg 3 (.call 30 (.cons (.loc 1) (.cons (.cst (.int 0)) .nil)))) [.str t, mV (mkd t), .int (t.length : Int), .undef, .undef, .undef, .undef, .undef] σ = some (.next, [.str t, mV (mkd t), .int (t.length : Int), .int (R1 (mkd t) : Int), .undef, .undef, .undef, .undef], σ) := by
    refine (asg_of _ (v := .int (R1 (mkd t) : Int)) (σ' := σ) ?_ (by simp)).trans rfl
    refine (call_of _ (loc1_of _ _ _ _ _ _)).trans ?_
    exact r1
  have hR1 : R1 (mkd t) ≤ (mkd t).length := by
    unfold R1
    cases h : vc (mkd t) with
    | none => exact Nat.le_refl _
    | some k => exact (vc_le _ _ h).2
  have r2 := region_x (d+1) (mkd t) (R1 (mkd t)) hR1 (by omega) σ
  have q3 : exec (callN FNS (d+3)) (.asg 4 (.call 30 (.cons (.loc 1) (.cons (.loc 3) .nil)))) [.str t, mV (mkd t), .int (t.length : Int), .int (R1 (mkd t) : Int), .undef, .undef, .undef, .undef] σ = some (.next, [.str t, mV (mkd t), .int (t.length : Int), .int (R1 (mkd t) : Int), .int (R2 (mkd t) : Int), .undef, .undef, .undef], σ) := by
    refine (asg_of _ (v := .int (R2 (mkd t) : Int)) (σ' := σ) ?_ (by simp)).trans rfl
    refine (call_of _ (loc13_of _ _ _ _ _ _ _)).trans ?_
    exact r2
  rw [call33, b33_eq2, seq_next _ q0, seq_next _ q1, seq_next _ q2, seq_next _ q3]
  rw [hu, hml] at hl
  rw [hl]
  rfl
end Mine.C
end

section
set_option Elab.async false
set_option maxRecDepth 100000
set_option linter.unusedVariables false
set_option linter.unusedSimpArgs false
namespace Mine.C
/-- the search for a vowel and a non-vowel, behind a sign that was a vowel or not -/
def vcp (f : Bool) (l : Tx) : Option Nat := if f then (match l with
  | [] => none
  | y :: r => if isV y then vc (y :: r) else some 1) else vc l
theorem vc_vcp (x : Nat) (l : Tx) : vc (x :: l) = (vcp (isV x) l).map (· + 1) := by
  cases l with
  | nil => cases h : isV x <;> simp [vcp, vc]
  | cons y r =>
    rw [vc_cons]
    cases h : isV x
    · rw [if_neg (by simp)]; rfl
    · cases h2 : isV y
      · simp [vcp, h2]
      · rw [if_neg (by simp)]; simp [vcp, h2]
def lastV (A : Tx) : Bool := match A.getLast? with
  | some x => isV x
  | none => false
theorem vc_app : ∀ (A l : Tx), vc (A ++ l) = match vc A with
    | some k => some k
    | none => (vcp (lastV A) l).map (A.length + ·)
  | [], l => by simp [vc, lastV, vcp]
  | [x], l => by
    have : vc [x] = none := rfl
    rw [this]
    show vc (x :: l) = _
    rw [vc_vcp]
    have : lastV [x] = isV x := rfl
    rw [this]
    simp [Nat.add_comm]
  | x :: y :: A, l => by
    have ih := vc_app (y :: A) l
    show vc (x :: y :: (A ++ l)) = _
    rw [vc_cons, vc_cons]
    by_cases h : isV x = true ∧ isV y = false
    · rw [if_pos h, if_pos h]
    · rw [if_neg h, if_neg h]
      have e : y :: (A ++ l) = (y :: A) ++ l := rfl
      rw [e, ih]
      have hl : lastV (x :: y :: A) = lastV (y :: A) := by unfold lastV; rw [List.getLast?_cons_cons]
      cases h2 : vc (y :: A) with
      | some k => rfl
      | none =>
        simp only [Option.map_none]
        rw [hl]
        cases vcp (lastV (y :: A)) l with
        | none => rfl
        | some v => simp; omega
def gv (f : Bool) (l : Tx) : Nat := (vcp f l).getD l.length
theorem gv_pos (f : Bool) (l : Tx) (h : 0 < l.length) : 1 ≤ gv f l := by
  unfold gv vcp
  cases f
  · simp only [Bool.false_eq_true, ↓reduceIte]
    cases h2 : vc l with
    | none => exact h
    | some k => have := vc_le _ _ h2; simp; omega
  · simp only [↓reduceIte]
    cases l with
    | nil => simp at h
    | cons y r =>
      dsimp only
      split
      · cases h2 : vc (y :: r) with
        | none => simp
        | some k => have := vc_le _ _ h2; simp; omega
      · simp
theorem RR (A l : Tx) : (vc (A ++ l)).getD (A ++ l).length = match vc A with
    | some k => k
    | none => A.length + gv (lastV A) l := by
  rw [vc_app]
  cases vc A with
  | some k => rfl
  | none =>
    unfold gv
    cases vcp (lastV A) l with
    | none => simp
    | some v => simp
theorem R2_alt (m : Tx) : R2 m = R1 m + (vc (m.drop (R1 m))).getD (m.drop (R1 m)).length := by
  have hR1 : R1 m ≤ m.length := by
    unfold R1
    cases h : vc m with
    | none => exact Nat.le_refl _
    | some k => exact (vc_le _ _ h).2
  unfold R2
  rw [List.length_drop]
  cases vc (m.drop (R1 m)) with
  | none => simp; omega
  | some k => simp
/-- two marks that no test can tell apart in a text of n signs -/
def EqP (n p p' : Nat) : Prop := p = p' ∨ (n ≤ p ∧ n ≤ p')
theorem EqP.mono {n n' p p' : Nat} (h : EqP n p p') (hn : n' ≤ n) : EqP n' p p' := by
  rcases h with h | h
  · exact Or.inl h
  · exact Or.inr ⟨by omega, by omega⟩
theorem R1_of (A l : Tx) : R1 (A ++ l) = match vc A with
    | some k => k
    | none => A.length + gv (lastV A) l := by
  have := RR A l
  unfold R1
  exact this
theorem RR_s {A l : Tx} {k : Nat} (h : vc A = some k) : (vc (A ++ l)).getD (A ++ l).length = k := by rw [RR, h]
theorem RR_n {A l : Tx} (h : vc A = none) : (vc (A ++ l)).getD (A ++ l).length = A.length + gv (lastV A) l := by rw [RR, h]
theorem R2_ss (A l : Tx) {k j : Nat} (h : vc A = some k) (h2 : vc (A.drop k) = some j) : R2 (A ++ l) = k + j := by
  have h1 : R1 (A ++ l) = k := by rw [R1_of, h]
  have hk := vc_le _ _ h
  rw [R2_alt, h1, List.drop_append_of_le_length hk.2, RR_s h2]
theorem R2_sn (A l : Tx) {k : Nat} (h : vc A = some k) (h2 : vc (A.drop k) = none) : R2 (A ++ l) = A.length + gv (lastV (A.drop k)) l := by
  have h1 : R1 (A ++ l) = k := by rw [R1_of, h]
  have hk := vc_le _ _ h
  rw [R2_alt, h1, List.drop_append_of_le_length hk.2, RR_n h2, List.length_drop]
  omega
theorem R2_ge (m : Tx) : R1 m ≤ R2 m := by rw [R2_alt]; omega
/-- a short vowel-only end in place of another end: no test can tell -/
theorem eqp_v (A s r : Tx) (h1 : r.length ≤ s.length) (h2 : r.length ≤ 1) (h3 : r.all isV = true) : EqP (A ++ r).length (R1 (A ++ s)) (R1 (A ++ r)) ∧ EqP (A ++ r).length (R2 (A ++ s)) (R2 (A ++ r)) := by
  have gr : ∀ f, gv f r = r.length := by
    intro f
    match r, h2, h3 with
    | [], _, _ => cases f <;> rfl
    | [v], _, h3 =>
      have hv : isV v = true := by simpa using h3
      cases f
      · rfl
      · simp [gv, vcp, hv, vc]
    | _ :: _ :: _, h2, _ => simp at h2
  have gs : ∀ f, r.length ≤ gv f s := by
    intro f
    cases s with
    | nil => simp at h1; rw [h1]; exact Nat.zero_le _
    | cons y s => have := gv_pos f (y :: s) (by simp); omega
  have hl : (A ++ r).length = A.length + r.length := by simp
  cases hA : vc A with
  | some k =>
    refine ⟨Or.inl ?_, ?_⟩
    · rw [R1_of, R1_of, hA]
    · cases h2' : vc (A.drop k) with
      | some j => rw [R2_ss A s hA h2', R2_ss A r hA h2']; exact Or.inl rfl
      | none =>
        rw [R2_sn A s hA h2', R2_sn A r hA h2']
        have := gs (lastV (A.drop k))
        have := gr (lastV (A.drop k))
        exact Or.inr ⟨by omega, by omega⟩
  | none =>
    have e1 : R1 (A ++ s) = A.length + gv (lastV A) s := by rw [R1_of, hA]
    have e2 : R1 (A ++ r) = A.length + gv (lastV A) r := by rw [R1_of, hA]
    have := gs (lastV A)
    have := gr (lastV A)
    have := R2_ge (A ++ s)
    have := R2_ge (A ++ r)
    exact ⟨Or.inr ⟨by omega, by omega⟩, Or.inr ⟨by omega, by omega⟩⟩
def chk (s r : Tx) : Bool := [true, false].all fun f => decide (gv f s = gv f r) || (decide (r.length ≤ gv f s) && decide (r.length ≤ gv f r))
/-- a table's end in place of another, behind the first mark -/
theorem eqp_t (A s r : Tx) (hs : 0 < s.length) (hp : R1 (A ++ s) ≤ A.length) (hc : chk s r = true) : EqP (A ++ r).length (R1 (A ++ s)) (R1 (A ++ r)) ∧ EqP (A ++ r).length (R2 (A ++ s)) (R2 (A ++ r)) := by
  have hl : (A ++ r).length = A.length + r.length := by simp
  cases hA : vc A with
  | none =>
    have e1 : R1 (A ++ s) = A.length + gv (lastV A) s := by rw [R1_of, hA]
    have := gv_pos (lastV A) s hs
    omega
  | some k =>
    refine ⟨Or.inl ?_, ?_⟩
    · rw [R1_of, R1_of, hA]
    · cases h2' : vc (A.drop k) with
      | some j => rw [R2_ss A s hA h2', R2_ss A r hA h2']; exact Or.inl rfl
      | none =>
        rw [R2_sn A s hA h2', R2_sn A r hA h2']
        have hcc : ∀ f, gv f s = gv f r ∨ (r.length ≤ gv f s ∧ r.length ≤ gv f r) := by
          intro f
          simp [chk] at hc
          cases f
          · exact hc.2
          · exact hc.1
        rcases hcc (lastV (A.drop k)) with h | h
        · exact Or.inl (by omega)
        · exact Or.inr ⟨by omega, by omega⟩
theorem chk3 : ∀ k, k < 20 → chk (rs T3 k).reverse (rep3 k) = true ∧ okP (rep3 k) = true := by decide +kernel
theorem chk4 : ∀ k, k < 7 → chk (rs T4 k).reverse (rep4 k) = true ∧ okP (rep4 k) = true := by decide +kernel
/-- what an acting step does to the text -/
def Shape (p1 : Nat) (m x : Tx) : Prop := ∃ A s r, m = A ++ s ∧ x = A ++ r ∧ okP r = true ∧ ((r.length ≤ s.length ∧ r.length ≤ 1 ∧ r.all isV = true) ∨ (0 < s.length ∧ p1 ≤ A.length ∧ chk s r = true))
theorem shape_take (p1 : Nat) (m : Tx) (q : Nat) : Shape p1 m (m.take q) := ⟨m.take q, m.drop q, [], by simp, by simp, rfl, Or.inl ⟨by simp, by simp, rfl⟩⟩
theorem shape_vow (p1 : Nat) (m : Tx) (q v : Nat) (hq : q < m.length) (hv : isV v = true) (ho : okP [v] = true) : Shape p1 m (m.take q ++ [v]) := ⟨m.take q, m.drop q, [v], by simp, rfl, ho, Or.inl ⟨by simp; omega, by simp, by simp [hv]⟩⟩
theorem shape_tail (p1 : Nat) (m : Tx) (q p : Nat) (hq : q < m.length) : Shape p1 m (tail2 p (m.take q)) := by
  unfold tail2
  split
  · exact shape_vow p1 m q 101 hq rfl rfl
  · split
    · rw [List.take_take]; exact shape_take p1 m _
    · split
      · exact shape_vow p1 m q 101 hq rfl rfl
      · exact shape_take p1 m q
theorem St_shape (p1 p2 k : Nat) (m x : Tx) (h : St p1 p2 k m = some x) : Shape p1 m x := by
  match k, h with
  | 0, h => cases h
  | 1, h =>
    change A1 m = some x at h
    unfold A1 at h
    split at h
    · split at h <;> cases h <;> exact shape_take _ _ _
    · cases h
  | 2, h =>
    change A2 p1 m = some x at h
    unfold A2 at h
    split at h
    · split at h
      · cases h; exact shape_take _ _ _
      · cases h
    · split at h
      · rename_i h2
        have := sfx_len h2
        split at h
        · cases h
          exact shape_tail _ _ _ _ (by simp at this; omega)
        · cases h
      · split at h
        · rename_i h2
          have := sfx_len h2
          split at h
          · cases h
            exact shape_tail _ _ _ _ (by simp at this; omega)
          · cases h
        · cases h
  | 3, h =>
    change A3 m = some x at h
    unfold A3 at h
    split at h
    · rename_i h2
      rw [Bool.and_eq_true] at h2
      cases h
      refine shape_vow _ _ _ 105 ?_ rfl rfl
      cases m with
      | nil => exact absurd h2.2 (by simp)
      | cons a m => simp
    · cases h
  | 4, h =>
    change A4 p1 m = some x at h
    unfold A4 at h
    cases hb : best T3 m.reverse with
    | none => rw [hb] at h; cases h
    | some j =>
      rw [hb] at h
      obtain ⟨f1, f2, f3⟩ := best_facts T3_ok hb
      have hc := chk3 j f1
      have ht := (tb3 j f1).2.2.1
      dsimp only at h
      split at h
      · cases h
        exact ⟨m.take (m.length - (rs T3 j).length), (rs T3 j).reverse, rep3 j, f2, rfl, hc.2, Or.inr ⟨by simpa using ht, by rw [List.length_take]; omega, hc.1⟩⟩
      · cases h
  | 5, h =>
    change A5 p1 m = some x at h
    unfold A5 at h
    cases hb : best T4 m.reverse with
    | none => rw [hb] at h; cases h
    | some j =>
      rw [hb] at h
      obtain ⟨f1, f2, f3⟩ := best_facts T4_ok hb
      have hc := chk4 j f1
      have ht := (tb4 j f1).2.2.1
      dsimp only at h
      split at h
      · cases h
        exact ⟨m.take (m.length - (rs T4 j).length), (rs T4 j).reverse, rep4 j, f2, rfl, hc.2, Or.inr ⟨by simpa using ht, by rw [List.length_take]; omega, hc.1⟩⟩
      · cases h
  | 6, h =>
    change A6 p2 m = some x at h
    unfold A6 at h
    cases hb : best T5 m.reverse with
    | none => rw [hb] at h; cases h
    | some j =>
      rw [hb] at h
      dsimp only at h
      split at h
      · split at h
        · cases h; exact shape_take _ _ _
        · cases h
      · cases h
  | 7, h =>
    change A7 p1 p2 m = some x at h
    unfold A7 at h
    split at h
    · split at h
      · cases h; exact shape_take _ _ _
      · cases h
    · cases h
  | 8, h =>
    change A8 p2 m = some x at h
    unfold A8 at h
    split at h
    · cases h; exact shape_take _ _ _
    · cases h
  | k + 9, h => cases h
end Mine.C
end

section
set_option Elab.async false
set_option maxRecDepth 100000
set_option linter.unusedVariables false
set_option linter.unusedSimpArgs false
namespace Mine.C
theorem EqP.le {n p p' : Nat} (h : EqP n p p') {c : Nat} (hc : 0 < c) : (p + c ≤ n) = (p' + c ≤ n) := by
  apply propext
  rcases h with h | h
  · rw [h]
  · constructor <;> intro _ <;> omega
theorem EqP.eq {n p p' : Nat} (h : EqP n p p') {c : Nat} (hc : c < n) : (c = p) = (c = p') := by
  apply propext
  rcases h with h | h
  · rw [h]
  · constructor <;> intro _ <;> omega
theorem tail2_eqp {n p p' : Nat} (h : EqP n p p') {x : Tx} (hx : x.length < n) : tail2 p x = tail2 p' x := by
  unfold tail2
  simp only [h.eq hx]
theorem St_eqp {p1 p1' p2 p2' : Nat} {x : Tx} (h1 : EqP x.length p1 p1') (h2 : EqP x.length p2 p2') : ∀ k, St p1 p2 k x = St p1' p2' k x
  | 0 => rfl
  | 1 => rfl
  | 2 => by
    show A2 p1 x = A2 p1' x
    cases x with
    | nil => rfl
    | cons a x =>
      have e2 : ((a :: x).take ((a :: x).length - 2)).length < (a :: x).length := by rw [List.length_take, List.length_cons]; omega
      have e3 : ((a :: x).take ((a :: x).length - 3)).length < (a :: x).length := by rw [List.length_take, List.length_cons]; omega
      unfold A2
      rw [tail2_eqp h1 e2, tail2_eqp h1 e3]
      simp only [h1.le (show 0 < 3 by omega)]
  | 3 => rfl
  | 4 => by
    show A4 p1 x = A4 p1' x
    unfold A4
    cases hb : best T3 x.reverse with
    | none => rfl
    | some k =>
      have := (tb3 k (best_facts T3_ok hb).1).2.2.1
      simp only [h1.le this]
  | 5 => by
    show A5 p1 x = A5 p1' x
    unfold A5
    cases hb : best T4 x.reverse with
    | none => rfl
    | some k =>
      have := (tb4 k (best_facts T4_ok hb).1).2.2.1
      simp only [h1.le this]
  | 6 => by
    show A6 p2 x = A6 p2' x
    unfold A6
    cases hb : best T5 x.reverse with
    | none => rfl
    | some k =>
      have := (tb5 k (best_facts T5_ok hb).1).2.2.1
      simp only [h2.le this]
  | 7 => by
    show A7 p1 p2 x = A7 p1' p2' x
    unfold A7
    simp only [h1.le (show 0 < 1 by omega), h2.le (show 0 < 1 by omega)]
  | 8 => by
    show A8 p2 x = A8 p2' x
    unfold A8
    simp only [h2.le (show 0 < 1 by omega)]
  | k + 9 => rfl
noncomputable def runL (p1 p2 : Nat) : List Nat → Tx → Tx
  | [], x => x
  | k :: ks, x => runL p1 p2 ks (Fs p1 p2 k x)
def E8 : List Nat := [1, 2, 3, 4, 5, 6, 7, 8]
theorem run8_L (p1 p2 : Nat) (m : Tx) : run8 p1 p2 m = runL p1 p2 E8 m := rfl
theorem runL_eqp {p1 p1' p2 p2' : Nat} : ∀ (ks : List Nat) {x : Tx}, EqP x.length p1 p1' → EqP x.length p2 p2' → runL p1 p2 ks x = runL p1' p2' ks x
  | [], _, _, _ => rfl
  | k :: ks, x, h1, h2 => by
    have hl := Fs_len p1' p2' k x
    have e : Fs p1 p2 k x = Fs p1' p2' k x := by unfold Fs; rw [St_eqp h1 h2]
    show runL p1 p2 ks (Fs p1 p2 k x) = runL p1' p2' ks (Fs p1' p2' k x)
    rw [e]
    exact runL_eqp ks (h1.mono hl) (h2.mono hl)
theorem runL_len (p1 p2 : Nat) : ∀ (ks : List Nat) (x : Tx), (runL p1 p2 ks x).length ≤ x.length
  | [], _ => Nat.le_refl _
  | k :: ks, x => Nat.le_trans (runL_len p1 p2 ks _) (Fs_len p1 p2 k x)
theorem runL_skip (p1 p2 : Nat) (x : Tx) (k2 : List Nat) : ∀ k1 : List Nat, (∀ j ∈ k1, St p1 p2 j x = none) → runL p1 p2 (k1 ++ k2) x = runL p1 p2 k2 x
  | [], _ => rfl
  | j :: k1, h => by
    have e : Fs p1 p2 j x = x := by unfold Fs; rw [h j (by simp)]; rfl
    show runL p1 p2 (k1 ++ k2) (Fs p1 p2 j x) = _
    rw [e]
    exact runL_skip p1 p2 x k2 k1 fun j hj => h j (by simp [hj])
theorem lk_spec (p1 p2 : Nat) (m : Tx) : (lk p1 p2 m = (0, m) ∧ ∀ j, j ∈ E8 → St p1 p2 j m = none) ∨ (∃ k x, 1 ≤ k ∧ k ≤ 8 ∧ lk p1 p2 m = (k, x) ∧ St p1 p2 k m = some x ∧ ∀ j, 1 ≤ j → j < k → St p1 p2 j m = none) := by
  cases h1 : A1 m with
  | some x => exact Or.inr ⟨1, x, by omega, by omega, by simp only [lk, h1], h1, fun j a b => by omega⟩
  | none =>
  cases h2 : A2 p1 m with
  | some x => exact Or.inr ⟨2, x, by omega, by omega, by simp only [lk, h1, h2], h2, fun j a b => by
      have : j = 1 := by omega
      subst this; exact h1⟩
  | none =>
  cases h3 : A3 m with
  | some x => exact Or.inr ⟨3, x, by omega, by omega, by simp only [lk, h1, h2, h3], h3, fun j a b => by
      have : j = 1 ∨ j = 2 := by omega
      rcases this with rfl | rfl <;> assumption⟩
  | none =>
  cases h4 : A4 p1 m with
  | some x => exact Or.inr ⟨4, x, by omega, by omega, by simp only [lk, h1, h2, h3, h4], h4, fun j a b => by
      have : j = 1 ∨ j = 2 ∨ j = 3 := by omega
      rcases this with rfl | rfl | rfl <;> assumption⟩
  | none =>
  cases h5 : A5 p1 m with
  | some x => exact Or.inr ⟨5, x, by omega, by omega, by simp only [lk, h1, h2, h3, h4, h5], h5, fun j a b => by
      have : j = 1 ∨ j = 2 ∨ j = 3 ∨ j = 4 := by omega
      rcases this with rfl | rfl | rfl | rfl <;> assumption⟩
  | none =>
  cases h6 : A6 p2 m with
  | some x => exact Or.inr ⟨6, x, by omega, by omega, by simp only [lk, h1, h2, h3, h4, h5, h6], h6, fun j a b => by
      have : j = 1 ∨ j = 2 ∨ j = 3 ∨ j = 4 ∨ j = 5 := by omega
      rcases this with rfl | rfl | rfl | rfl | rfl <;> assumption⟩
  | none =>
  cases h7 : A7 p1 p2 m with
  | some x => exact Or.inr ⟨7, x, by omega, by omega, by simp only [lk, h1, h2, h3, h4, h5, h6, h7], h7, fun j a b => by
      have : j = 1 ∨ j = 2 ∨ j = 3 ∨ j = 4 ∨ j = 5 ∨ j = 6 := by omega
      rcases this with rfl | rfl | rfl | rfl | rfl | rfl <;> assumption⟩
  | none =>
  cases h8 : A8 p2 m with
  | some x => exact Or.inr ⟨8, x, by omega, by omega, by simp only [lk, h1, h2, h3, h4, h5, h6, h7, h8], h8, fun j a b => by
      have : j = 1 ∨ j = 2 ∨ j = 3 ∨ j = 4 ∨ j = 5 ∨ j = 6 ∨ j = 7 := by omega
      rcases this with rfl | rfl | rfl | rfl | rfl | rfl | rfl <;> assumption⟩
  | none =>
    refine Or.inl ⟨by simp only [lk, h1, h2, h3, h4, h5, h6, h7, h8], fun j hj => ?_⟩
    have : j = 1 ∨ j = 2 ∨ j = 3 ∨ j = 4 ∨ j = 5 ∨ j = 6 ∨ j = 7 ∨ j = 8 := by simpa [E8] using hj
    rcases this with rfl | rfl | rfl | rfl | rfl | rfl | rfl | rfl <;> assumption
theorem E8_take : ∀ k, k ≤ 8 → ∀ j ∈ E8.take k, 1 ≤ j ∧ j ≤ k := by decide
theorem E8_drop : ∀ k, k ≤ 8 → 1 ≤ k → E8.drop (k - 1) = k :: E8.drop k := by decide
theorem E8_mem : ∀ j ∈ E8, 1 ≤ j ∧ j ≤ 8 := by decide
/-- the run from the first step that acts -/
theorem run_first {p1 p2 k : Nat} {m x : Tx} (hk1 : 1 ≤ k) (hk8 : k ≤ 8) (hk : St p1 p2 k m = some x) (hj : ∀ j, 1 ≤ j → j < k → St p1 p2 j m = none) : run8 p1 p2 m = runL p1 p2 (E8.drop k) x := by
  rw [run8_L]
  conv => lhs; rw [← List.take_append_drop (k - 1) E8]
  rw [runL_skip p1 p2 m _ _ (fun j hj' => by
    have := E8_take (k - 1) (by omega) j hj'
    exact hj j this.1 (by omega))]
  rw [E8_drop k hk8 hk1]
  show runL p1 p2 (E8.drop k) (Fs p1 p2 k m) = _
  have : Fs p1 p2 k m = x := by unfold Fs; rw [hk]; rfl
  rw [this]
theorem run_skip {p1 p2 k : Nat} {x : Tx} (hk8 : k ≤ 8) (hj : ∀ j, 1 ≤ j → j ≤ k → St p1 p2 j x = none) : run8 p1 p2 x = runL p1 p2 (E8.drop k) x := by
  rw [run8_L]
  conv => lhs; rw [← List.take_append_drop k E8]
  exact runL_skip p1 p2 x _ _ (fun j hj' => by
    have := E8_take k hk8 j hj'
    exact hj j this.1 this.2)
-- marks
theorem mark_ok : ∀ (r a : Tx), okP r = true → markTx a r = r
  | [], _, _ => rfl
  | c :: r, a, h => by
    unfold okP at h
    rw [List.all_cons, Bool.and_eq_true] at h
    obtain ⟨h1, h2⟩ := h
    simp at h1
    simp only [markTx]
    rw [if_neg (fun k => h1.2 k.1), mark_ok r _ h2]
theorem mark_pre : ∀ (A t acc s r : Tx), no89 t → markTx acc t = A ++ s → okP r = true → markTx acc (UMt A ++ r) = A ++ r
  | [], t, acc, s, r, _, _, hr => mark_ok r acc hr
  | c :: A, [], acc, s, r, _, h, _ => by simp [markTx] at h
  | c :: A, c0 :: t, acc, s, r, h89, h, hr => by
    have hc0 : c0 ≠ 89 := h89 c0 (by simp)
    have ht : no89 t := fun x hx => h89 x (by simp [hx])
    simp only [markTx, List.cons_append, List.cons.injEq] at h
    obtain ⟨h1, h2⟩ := h
    have hun : un c = c0 := by
      by_cases hcond : c0 = 121 ∧ (acc = [] ∨ vowelTx.contains [acc.headD 0] = true)
      · rw [if_pos hcond] at h1; rw [← h1, hcond.1]; rfl
      · rw [if_neg hcond] at h1; rw [← h1]; unfold un; rw [if_neg hc0]
    show markTx acc (un c :: (UMt A ++ r)) = c :: (A ++ r)
    rw [hun]
    simp only [markTx]
    rw [h1]
    rw [h1] at h2
    rw [mark_pre A t (c :: acc) s r ht h2 hr]
theorem no89_UMt (m : Tx) : no89 (UMt m) := by
  intro c hc
  unfold UMt at hc
  rw [List.mem_map] at hc
  obtain ⟨a, _, rfl⟩ := hc
  unfold un
  split
  · decide
  · assumption
theorem UMt_app (a b : Tx) : UMt (a ++ b) = UMt a ++ UMt b := by unfold UMt; simp
theorem UMt_ok {r : Tx} (h : okP r = true) : UMt r = r := by
  unfold UMt okP at *
  rw [List.all_eq_true] at h
  conv => rhs; rw [← List.map_id r]
  apply List.map_congr_left
  intro c hc
  have := h c hc
  simp at this
  unfold un
  rw [if_neg this.1]; rfl
/-- the marks of what an acting step leaves -/
theorem mkd_left {t x : Tx} {p1 : Nat} (h89 : no89 t) (h : Shape p1 (mkd t) x) : mkd (UMt x) = x := by
  obtain ⟨A, s, r, h1, h2, h3, _⟩ := h
  rw [h2, UMt_app, UMt_ok h3]
  exact mark_pre A t [] s r h89 h1 h3
theorem shape_eqp {m x : Tx} (h : Shape (R1 m) m x) : EqP x.length (R1 m) (R1 x) ∧ EqP x.length (R2 m) (R2 x) := by
  obtain ⟨A, s, r, h1, h2, h3, h4⟩ := h
  subst h1; subst h2
  rcases h4 with ⟨a, b, c⟩ | ⟨a, b, c⟩
  · exact eqp_v A s r a b c
  · exact eqp_t A s r a b c
noncomputable def lookP (t : Tx) : Nat × Tx := lk (R1 (mkd t)) (R2 (mkd t)) (mkd t)
noncomputable def stemP (t : Tx) : Tx := UMt (run0 t)
theorem F0 {t : Tx} (h89 : no89 t) (h : (lookP t).1 = 0) : stemP t = t := by
  rcases lk_spec (R1 (mkd t)) (R2 (mkd t)) (mkd t) with ⟨_, h2⟩ | ⟨k, x, hk1, _, hk, _⟩
  · have : run0 t = mkd t := by
      unfold run0
      rw [run8_L]
      have := runL_skip (R1 (mkd t)) (R2 (mkd t)) (mkd t) [] E8 h2
      rw [List.append_nil] at this
      rw [this]; rfl
    unfold stemP
    rw [this]
    exact UMt_mark t [] h89
  · unfold lookP at h
    rw [hk] at h
    dsimp only at h
    omega
/-- the law's heart: what is left goes on as the whole -/
theorem F2 {t : Tx} (h89 : no89 t) (h : (lookP t).1 ≠ 0) (ha : (lookP (UMt (lookP t).2)).1 = 0 ∨ (lookP t).1 < (lookP (UMt (lookP t).2)).1) : stemP (UMt (lookP t).2) = stemP t := by
  rcases lk_spec (R1 (mkd t)) (R2 (mkd t)) (mkd t) with ⟨h2, _⟩ | ⟨k, x, hk1, hk8, hk, hst, hj⟩
  · unfold lookP at h; rw [h2] at h; exact absurd rfl h
  · have e : lookP t = (k, x) := hk
    rw [e] at ha ⊢
    dsimp only at ha ⊢
    have hsh := St_shape _ _ _ _ _ hst
    have hm : mkd (UMt x) = x := mkd_left h89 hsh
    obtain ⟨q1, q2⟩ := shape_eqp hsh
    have hrun : run0 t = runL (R1 (mkd t)) (R2 (mkd t)) (E8.drop k) x := run_first hk1 hk8 hst hj
    have hnone : ∀ j, 1 ≤ j → j ≤ k → St (R1 x) (R2 x) j x = none := by
      intro j hj1 hj2
      unfold lookP at ha
      rw [hm] at ha
      rcases lk_spec (R1 x) (R2 x) x with ⟨_, h2⟩ | ⟨k', x', hk1', hk8', hk', hst', hj'⟩
      · exact h2 j (by
          have : j = 1 ∨ j = 2 ∨ j = 3 ∨ j = 4 ∨ j = 5 ∨ j = 6 ∨ j = 7 ∨ j = 8 := by omega
          rcases this with rfl | rfl | rfl | rfl | rfl | rfl | rfl | rfl <;> decide)
      · rw [hk'] at ha
        dsimp only at ha
        exact hj' j hj1 (by omega)
    have hrun' : run0 (UMt x) = runL (R1 x) (R2 x) (E8.drop k) x := by
      unfold run0
      rw [hm]
      exact run_skip hk8 hnone
    unfold stemP
    rw [hrun, hrun', runL_eqp (E8.drop k) q1 q2]
end Mine.C
end

section
set_option Elab.async false
set_option maxRecDepth 100000
set_option linter.unusedVariables false
set_option linter.unusedSimpArgs false
namespace Mine.C
theorem tail2_lt (p1 : Nat) (m : Tx) (q : Nat) (h : q + 1 < m.length) : (tail2 p1 (m.take q)).length < m.length := by
  have := tail2_len p1 (m.take q)
  rw [List.length_take] at this
  omega
/-- what lets step 5a act -/
def Sp (p1 : Nat) (x : Tx) : Prop := ∀ p2, ∃ y, A7 p1 p2 x = some y
theorem rep3_3 : ∀ k, k < 20 → (rep3 k).length < (rs T3 k).length ∨ rep3 k = [97, 110, 99, 101] ∨ rep3 k = [101, 110, 99, 101] ∨ rep3 k = [97, 98, 108, 101] := by decide +kernel
theorem shR_no (c b : Nat) (r : Tx) (h : isV b = false) : shR (c :: b :: r) = false := by
  cases r with
  | nil => rfl
  | cons a r => simp [shR, h]
theorem sp_of (p1 : Nat) (A : Tx) (u v w : Nat) (hw : isV v = false) (hp : p1 ≤ A.length) : Sp p1 (A ++ [u, v, w, 101]) := by
  intro p2
  have e1 : sfx [101] (A ++ [u, v, w, 101]) = true := by
    have : A ++ [u, v, w, 101] = (A ++ [u, v, w]) ++ [101] := by simp
    rw [this, sfx1]; rfl
  have e2 : (A ++ [u, v, w, 101]).take ((A ++ [u, v, w, 101]).length - 1) = A ++ [u, v, w] := by
    have : A ++ [u, v, w, 101] = (A ++ [u, v, w]) ++ [101] := by simp
    have e3 : List.length (A ++ [u, v, w] ++ [101]) - 1 = List.length (A ++ [u, v, w]) := by simp
    rw [this, e3, List.take_left]
  refine ⟨A ++ [u, v, w], ?_⟩
  unfold A7
  rw [if_pos e1, e2, if_pos]
  refine Or.inr ⟨by simp; omega, ?_⟩
  rw [List.reverse_append]
  exact shR_no _ _ _ hw
theorem St_lt (p1 p2 k : Nat) (m x : Tx) (h : St p1 p2 k m = some x) : x.length < m.length ∨ (k = 3 ∧ x.length = m.length) ∨ (k = 4 ∧ Sp p1 x) := by
  match k, h with
  | 0, h => cases h
  | 1, h =>
    left
    change A1 m = some x at h
    unfold A1 at h
    split at h
    · rename_i h2
      rw [Bool.and_eq_true] at h2
      have := sfx_len h2.1
      simp at this
      split at h <;> cases h <;> rw [List.length_take] <;> omega
    · cases h
  | 2, h =>
    left
    change A2 p1 m = some x at h
    unfold A2 at h
    split at h
    · rename_i h2
      have := sfx_len h2
      simp at this
      split at h
      · cases h; rw [List.length_take]; omega
      · cases h
    · split at h
      · rename_i h2
        have := sfx_len h2
        simp at this
        split at h
        · rename_i hv
          cases h
          have := tail2_len p1 (m.take (m.length - 2))
          rw [List.length_take] at this
          omega
        · cases h
      · split at h
        · rename_i h2
          have := sfx_len h2
          simp at this
          split at h
          · cases h
            have := tail2_len p1 (m.take (m.length - 3))
            rw [List.length_take] at this
            omega
          · cases h
        · cases h
  | 3, h =>
    right; left
    change A3 m = some x at h
    unfold A3 at h
    split at h
    · rename_i h2
      rw [Bool.and_eq_true] at h2
      cases h
      refine ⟨rfl, ?_⟩
      cases m with
      | nil => exact absurd h2.2 (by simp)
      | cons a m => simp
    · cases h
  | 4, h =>
    change A4 p1 m = some x at h
    unfold A4 at h
    cases hb : best T3 m.reverse with
    | none => rw [hb] at h; cases h
    | some j =>
      rw [hb] at h
      obtain ⟨f1, f2, f3⟩ := best_facts T3_ok hb
      dsimp only at h
      split at h
      · rename_i hp
        cases h
        have hA : p1 ≤ (m.take (m.length - (rs T3 j).length)).length := by rw [List.length_take]; omega
        rcases rep3_3 j f1 with hr | hr | hr | hr
        · left
          rw [List.length_append, List.length_take]; omega
        · right; right
          rw [hr]; exact ⟨rfl, sp_of p1 _ 97 110 99 rfl hA⟩
        · right; right
          rw [hr]; exact ⟨rfl, sp_of p1 _ 101 110 99 rfl hA⟩
        · right; right
          rw [hr]; exact ⟨rfl, sp_of p1 _ 97 98 108 rfl hA⟩
      · cases h
  | 5, h =>
    left
    change A5 p1 m = some x at h
    unfold A5 at h
    cases hb : best T4 m.reverse with
    | none => rw [hb] at h; cases h
    | some j =>
      rw [hb] at h
      obtain ⟨f1, f2, f3⟩ := best_facts T4_ok hb
      have := rep_len4 j f1
      dsimp only at h
      split at h
      · cases h
        rw [List.length_append, List.length_take]; omega
      · cases h
  | 6, h =>
    left
    change A6 p2 m = some x at h
    unfold A6 at h
    cases hb : best T5 m.reverse with
    | none => rw [hb] at h; cases h
    | some j =>
      rw [hb] at h
      obtain ⟨f1, f2, f3⟩ := best_facts T5_ok hb
      have := (tb5 j f1).2.2.1
      dsimp only at h
      split at h
      · split at h
        · cases h; rw [List.length_take]; omega
        · cases h
      · cases h
  | 7, h =>
    left
    change A7 p1 p2 m = some x at h
    unfold A7 at h
    split at h
    · rename_i h2
      have := sfx_len h2
      simp at this
      split at h
      · cases h; rw [List.length_take]; omega
      · cases h
    · cases h
  | 8, h =>
    left
    change A8 p2 m = some x at h
    unfold A8 at h
    split at h
    · rename_i h2
      have := sfx_len h2.1
      simp at this
      cases h; rw [List.length_take]; omega
    · cases h
  | k + 9, h => cases h
/-- a step that keeps the length and is none of the two odd ones did not act -/
theorem Fs_same {p1 p2 k : Nat} {m : Tx} (h : (Fs p1 p2 k m).length = m.length) (h3 : k ≠ 3) (h4 : k ≠ 4) : Fs p1 p2 k m = m ∧ St p1 p2 k m = none := by
  unfold Fs at h ⊢
  cases hs : St p1 p2 k m with
  | none => exact ⟨rfl, rfl⟩
  | some x =>
    rw [hs] at h
    have h : x.length = m.length := h
    rcases St_lt p1 p2 k m x hs with h' | h' | h'
    · omega
    · exact absurd h'.1 h3
    · exact absurd h'.1 h4
theorem Fs_same4 {p1 p2 : Nat} {m : Tx} (h : (Fs p1 p2 4 m).length = m.length) : (Fs p1 p2 4 m = m ∧ St p1 p2 4 m = none) ∨ Sp p1 (Fs p1 p2 4 m) := by
  unfold Fs at h ⊢
  cases hs : St p1 p2 4 m with
  | none => exact Or.inl ⟨rfl, rfl⟩
  | some x =>
    rw [hs] at h
    have h : x.length = m.length := h
    right
    rcases St_lt p1 p2 4 m x hs with h' | h' | h'
    · omega
    · exact absurd h'.1 (by decide)
    · exact h'.2
theorem run_same {p1 p2 : Nat} {m : Tx} (h : (run8 p1 p2 m).length = m.length) : run8 p1 p2 m = Fs p1 p2 3 m ∧ St p1 p2 1 m = none ∧ St p1 p2 2 m = none ∧ (St p1 p2 3 m = none → ∀ j, 4 ≤ j → j ≤ 8 → St p1 p2 j m = none) := by
  unfold run8 at h ⊢
  have L1 := Fs_len p1 p2 1 m
  generalize h1 : Fs p1 p2 1 m = m1 at *
  have L2 := Fs_len p1 p2 2 m1
  generalize h2 : Fs p1 p2 2 m1 = m2 at *
  have L3 := Fs_len p1 p2 3 m2
  generalize h3 : Fs p1 p2 3 m2 = m3 at *
  have L4 := Fs_len p1 p2 4 m3
  generalize h4 : Fs p1 p2 4 m3 = m4 at *
  have L5 := Fs_len p1 p2 5 m4
  generalize h5 : Fs p1 p2 5 m4 = m5 at *
  have L6 := Fs_len p1 p2 6 m5
  generalize h6 : Fs p1 p2 6 m5 = m6 at *
  have L7 := Fs_len p1 p2 7 m6
  generalize h7 : Fs p1 p2 7 m6 = m7 at *
  have L8 := Fs_len p1 p2 8 m7
  generalize h8 : Fs p1 p2 8 m7 = m8 at *
  have s1 := Fs_same (p1 := p1) (p2 := p2) (k := 1) (m := m) (by rw [h1]; omega) (by decide) (by decide)
  have s2 := Fs_same (p1 := p1) (p2 := p2) (k := 2) (m := m1) (by rw [h2]; omega) (by decide) (by decide)
  have s4 := Fs_same4 (p1 := p1) (p2 := p2) (m := m3) (by rw [h4]; omega)
  have s5 := Fs_same (p1 := p1) (p2 := p2) (k := 5) (m := m4) (by rw [h5]; omega) (by decide) (by decide)
  have s6 := Fs_same (p1 := p1) (p2 := p2) (k := 6) (m := m5) (by rw [h6]; omega) (by decide) (by decide)
  have s7 := Fs_same (p1 := p1) (p2 := p2) (k := 7) (m := m6) (by rw [h7]; omega) (by decide) (by decide)
  have s8 := Fs_same (p1 := p1) (p2 := p2) (k := 8) (m := m7) (by rw [h8]; omega) (by decide) (by decide)
  rw [h1] at s1
  rw [h2] at s2
  rw [h4] at s4
  rw [h5] at s5
  rw [h6] at s6
  rw [h7] at s7
  rw [h8] at s8
  obtain ⟨e1, n1⟩ := s1
  obtain ⟨e2, n2⟩ := s2
  obtain ⟨e5, n5⟩ := s5
  obtain ⟨e6, n6⟩ := s6
  obtain ⟨e7, n7⟩ := s7
  obtain ⟨e8, n8⟩ := s8
  subst e1; subst e2
  rcases s4 with ⟨e4, n4⟩ | hsp
  · rw [e8, e7, e6, e5, e4]
    refine ⟨h3.symm, n1, n2, fun hn j hj1 hj2 => ?_⟩
    have e3 : m3 = m2 := by rw [← h3]; unfold Fs; rw [hn]; rfl
    rw [e7, e6, e5, e4, e3] at n8
    rw [e6, e5, e4, e3] at n7
    rw [e5, e4, e3] at n6
    rw [e4, e3] at n5
    rw [e3] at n4
    have : j = 4 ∨ j = 5 ∨ j = 6 ∨ j = 7 ∨ j = 8 := by omega
    rcases this with rfl | rfl | rfl | rfl | rfl <;> assumption
  · exfalso
    rw [e6, e5] at n7
    obtain ⟨y, hy⟩ := hsp p2
    have n7' : A7 p1 p2 m4 = none := n7
    rw [hy] at n7'; cases n7'
theorem stem_len (t : Tx) : (stemP t).length = (run0 t).length := by unfold stemP; exact UMt_len _
theorem lookP_le {t : Tx} (h : (lookP t).1 ≠ 0) : (stemP t).length ≤ (UMt (lookP t).2).length ∧ (UMt (lookP t).2).length ≤ t.length := by
  rcases lk_spec (R1 (mkd t)) (R2 (mkd t)) (mkd t) with ⟨h2, _⟩ | ⟨k, x, hk1, hk8, hk, hst, hj⟩
  · unfold lookP at h; rw [h2] at h; exact absurd rfl h
  · have e : lookP t = (k, x) := hk
    rw [stem_len, UMt_len, e]
    dsimp only
    have hrun : run0 t = runL (R1 (mkd t)) (R2 (mkd t)) (E8.drop k) x := run_first hk1 hk8 hst hj
    rw [hrun]
    refine ⟨runL_len _ _ _ _, ?_⟩
    have := St_len _ _ _ _ _ hst
    rw [mkd_len] at this
    exact this
/-- where the length stays, step 1c alone acted -/
theorem same_3 {t : Tx} (h89 : no89 t) (h : (lookP t).1 ≠ 0) (hl : (stemP t).length = t.length) : (lookP t).1 = 3 ∧ stemP t = UMt (lookP t).2 ∧ sfx [121] t = true ∧ sfx [121] (stemP t) = false := by
  rw [stem_len, ← mkd_len t] at hl
  unfold run0 at hl
  obtain ⟨r1, r2, r3, r4⟩ := run_same hl
  rcases lk_spec (R1 (mkd t)) (R2 (mkd t)) (mkd t) with ⟨h2, _⟩ | ⟨k, x, hk1, hk8, hk, hst, hj⟩
  · unfold lookP at h; rw [h2] at h; exact absurd rfl h
  · have e : lookP t = (k, x) := hk
    have k3 : k = 3 := by
      apply Classical.byContradiction
      intro hne
      have : k = 1 ∨ k = 2 ∨ 4 ≤ k := by omega
      rcases this with h' | h' | h'
      · rw [h', r2] at hst; cases hst
      · rw [h', r3] at hst; cases hst
      · rw [r4 (hj 3 (by omega) (by omega)) k h' hk8] at hst; cases hst
    subst k3
    have hx : stemP t = UMt x := by
      unfold stemP run0
      rw [r1]
      unfold Fs
      rw [hst]; rfl
    refine ⟨by rw [e], by rw [e]; exact hx, ?_⟩
    have hA3 : A3 (mkd t) = some x := hst
    unfold A3 at hA3
    split at hA3
    · rename_i h2
      rw [Bool.and_eq_true] at h2
      have hy := sfx_y (mkd t)
      have hu : UMt (mkd t) = t := UMt_mark t [] h89
      rw [hu, h2.1] at hy
      refine ⟨hy, ?_⟩
      cases hA3
      rw [hx, UMt_app]
      show sfx [121] (_ ++ [105]) = false
      rw [sfx1]; rfl
    · cases hA3
theorem F1 {t : Tx} (h89 : no89 t) (h : (lookP t).1 ≠ 0) : stemP t ≠ t := by
  intro e
  obtain ⟨_, _, h1, h2⟩ := same_3 h89 h (by rw [e])
  rw [e, h1] at h2; cases h2
def psi (t : Tx) : Nat := 2 * t.length + if sfx [121] t = true then 1 else 0
theorem F3 {t : Tx} (h89 : no89 t) (h : (lookP t).1 ≠ 0) : psi (stemP t) + 1 ≤ psi t ∧ 1 ≤ t.length := by
  obtain ⟨l1, l2⟩ := lookP_le h
  by_cases hl : (stemP t).length = t.length
  · obtain ⟨_, _, h1, h2⟩ := same_3 h89 h hl
    refine ⟨?_, ?_⟩
    · unfold psi
      rw [h1, h2, hl]; simp
    · have := sfx_len h1; simpa using this
  · refine ⟨?_, by omega⟩
    unfold psi
    split <;> split <;> omega
theorem psi_le (t : Tx) : psi t ≤ 2 * t.length + 1 := by unfold psi; split <;> omega
theorem psi_ge (t : Tx) : 2 * t.length ≤ psi t := by unfold psi; split <;> omega
/-- steps bring no mark in -/
theorem St_no89 {p1 p2 k : Nat} {m x : Tx} (h : St p1 p2 k m = some x) (hm : no89 m) : no89 x := by
  obtain ⟨A, s, r, h1, h2, h3, _⟩ := St_shape _ _ _ _ _ h
  subst h1; subst h2
  intro c hc
  rw [List.mem_append] at hc
  rcases hc with hc | hc
  · exact hm c (by simp [hc])
  · unfold okP at h3
    rw [List.all_eq_true] at h3
    have := h3 c hc
    simp at this
    exact this.1
theorem runL_no89 (p1 p2 : Nat) : ∀ (ks : List Nat) (m : Tx), no89 m → no89 (runL p1 p2 ks m)
  | [], m, h => h
  | k :: ks, m, h => runL_no89 p1 p2 ks _ (by
      unfold Fs
      cases hs : St p1 p2 k m with
      | none => exact h
      | some x => exact St_no89 hs h)
theorem no89_UMt_id {m : Tx} (h : no89 m) : UMt m = m := by
  unfold UMt
  conv => rhs; rw [← List.map_id m]
  apply List.map_congr_left
  intro c hc
  unfold un
  rw [if_neg (h c hc)]; rfl
theorem stem_is {t : Tx} (h89 : no89 t) {b : Bool} (hb : b = false → mkd t = t) : (if b then UMt (run0 t) else run0 t) = stemP t := by
  cases b
  · have : no89 (run0 t) := by
      unfold run0
      rw [hb rfl, run8_L]
      exact runL_no89 _ _ _ _ h89
    exact (no89_UMt_id this).symm
  · rfl
end Mine.C
end

section
set_option Elab.async false
set_option maxRecDepth 100000
set_option linter.unusedVariables false
set_option linter.unusedSimpArgs false
set_option linter.unusedSectionVars false
namespace Mine.C
def pcs : List Tx := [[97], [98], [99], [100], [101], [102], [103], [104], [105], [106], [107], [108], [109], [110], [111], [112], [113], [114], [115], [116], [117], [118], [119], [120], [121], [122], [39], [233], [115], [105, 101, 115], [115, 115, 101, 115], [115, 115], [101, 100], [101, 101, 100], [105, 110, 103], [98, 98], [100, 100], [102, 102], [103, 103], [98, 108], [109, 109], [110, 110], [112, 112], [114, 114], [97, 116], [116, 116], [105, 122], [97, 121], [101, 121], [121, 121], [97, 110, 99, 105], [101, 110, 99, 105], [97, 98, 108, 105], [101, 108, 105], [97, 108, 108, 105], [111, 117, 115, 108, 105], [101, 110, 116, 108, 105], [97, 108, 105, 116, 105], [98, 105, 108, 105, 116, 105], [105, 118, 105, 116, 105], [116, 105, 111, 110, 97, 108], [97, 116, 105, 111, 110, 97, 108], [97, 108, 105, 115, 109], [97, 116, 105, 111, 110], [105, 122, 97, 116, 105, 111, 110], [105, 122, 101, 114], [97, 116, 111, 114], [105, 118, 101, 110, 101, 115, 115], [102, 117, 108, 110, 101, 115, 115], [111, 117, 115, 110, 101, 115, 115], [105, 99, 97, 116, 101], [97, 116, 105, 118, 101], [97, 108, 105, 122, 101], [105, 99, 105, 116, 105], [105, 99, 97, 108], [102, 117, 108], [110, 101, 115, 115], [105, 99], [97, 110, 99, 101], [101, 110, 99, 101], [97, 98, 108, 101], [105, 98, 108, 101], [97, 116, 101], [105, 118, 101], [105, 122, 101], [105, 116, 105], [97, 108], [105, 115, 109], [115, 105, 111, 110], [116, 105, 111, 110], [101, 114], [111, 117, 115], [97, 110, 116], [101, 110, 116], [109, 101, 110, 116], [101, 109, 101, 110, 116], [111, 117], [108, 108], [101], [114, 101, 108], [116, 97, 110], [104, 111, 112], [101, 101]]
def TB : S := (.seq (.asg 4 (.idx (.call 27 .nil) (.bin .mod (.loc 3) (.len (.call 27 .nil))))) (.seq (.ife (.x (.cmp .le (.bin .add (.len (.loc 2)) (.len (.loc 4))) (.cst (.int 13)))) (.seq (.asg 2 (.bin .add (.loc 2) (.loc 4))) .skip) .skip) .skip))
def G0 : S := (.asg 8 (.meth 14 5 (.cons (.loc 2) .nil)))
def G1 : S := (.ife (.not (.x (.isStr (.loc 8)))) (.seq (.ret (.cst (.bool false))) .skip) .skip)
def G2 : S := (.asg2 9 10 (.call 33 (.cons (.loc 2) .nil)))
def G3 : S := (.ife (.x (.cmp .eq (.loc 9) (.cst (.int 0)))) (.seq (.ret (.cmp .eq (.loc 8) (.loc 2))) .skip) .skip)
def G4 : S := (.ife (.or (.x (.cmp .eq (.loc 8) (.loc 2))) (.or (.x (.cmp .gt (.len (.loc 8)) (.len (.loc 10)))) .ff)) (.seq (.ret (.cst (.bool false))) .skip) .skip)
def G5 : S := (.ife (.and (.x (.cmp .eq (.len (.loc 8)) (.len (.loc 2)))) (.and (.or (.x (.cmp .ne (.loc 9) (.cst (.int 3)))) (.or (.x (.cmp .ne (.loc 8) (.loc 10))) .ff)) .tt)) (.seq (.ret (.cst (.bool false))) .skip) .skip)
def G6 : S := (.ife (.x (.cmp .lt (.loc 6) (.cst (.int 3)))) (.seq (.asg 11 (.call 33 (.cons (.loc 10) .nil))) (.seq (.ife (.and (.or (.x (.cmp .eq (.idx (.loc 11) (.cst (.int 0))) (.cst (.int 0)))) (.or (.x (.cmp .gt (.idx (.loc 11) (.cst (.int 0))) (.loc 9))) .ff)) (.and (.x (.cmp .ne (.meth 14 5 (.cons (.loc 10) .nil)) (.loc 8))) .tt)) (.seq (.ret (.cst (.bool false))) .skip) .skip) .skip)) .skip)
def G7 : S := (.asg 6 (.bin .add (.loc 6) (.cst (.int 1))))
def G8 : S := (.ife (.x (.cmp .gt (.loc 6) (.loc 7))) (.seq (.ret (.cst (.bool false))) .skip) .skip)
def LWb : S := (.seq G0 (.seq G1 (.seq G2 (.seq G3 (.seq G4 (.seq G5 (.seq G6 (.seq G7 (.seq G8 (.seq (.asg 2 (.loc 8)) .skip))))))))))
def LW : S := .whl (.x (.cst (.bool true))) LWb
def TF : S := .forx 3 (.loc 1) TB
theorem b34_eq : b34 = (.seq (.asg 1 (.slc (.loc 0) (.cst .none) (.cst (.int 12)))) (.seq (.ife (.not (.x (.loc 1))) (.seq (.asg 1 (.list (.cons (.cst (.int 99)) (.cons (.cst (.int 63)) (.cons (.cst (.int 86)) .nil))))) .skip) .skip) (.seq (.asg 2 (.cst (.str []))) (.seq TF (.seq (.asg 5 (.new 13)) (.seq (.asg 6 (.cst (.int 0))) (.seq (.asg 7 (.bin .mul (.cst (.int 2)) (.len (.loc 2)))) (.seq LW .skip)))))))) := rfl

theorem stemW (d : Nat) (σ : Stem) (t : Tx) (hl : t.length ≤ 100) (h89 : no89 t) : ∃ σ', callN FNS (d+6) 14 [.slf, .str t] (some σ) = some (.str (stemP t), some σ') := by
  obtain ⟨b, σ', hb, h⟩ := stemWord_x d σ t hl
  rw [stem_is h89 hb] at h
  exact ⟨σ', h⟩
theorem lookW (d : Nat) (σ : Sta) (t : Tx) (hl : t.length ≤ 100) (h89 : no89 t) : callN FNS (d+6) 33 [.str t] σ = some (.tup [.int ((lookP t).1 : Int), .str (UMt (lookP t).2)], σ) := look_x (d+2) t σ hl h89
section
variable (d : Nat) (t : Tx) (turns most : Nat) (w0 w1 w3 w4 y8 y9 y10 y11 : V) (σ : Stem) (ht : t.length ≤ 100) (h89 : no89 t)
include ht h89
theorem g0_x : ∃ σ', exec (callN FNS (d+6)) G0 [w0, w1, .str t, w3, w4, .slf, .int (turns : Int), .int (most : Int), y8, y9, y10, y11] (some σ) = some (.next, [w0, w1, .str t, w3, w4, .slf, .int (turns : Int), .int (most : Int), .str (stemP t), y9, y10, y11], some σ') := by
  obtain ⟨σ', h⟩ := stemW d σ t ht h89
  refine ⟨σ', ?_⟩
  unfold G0
  simp only [exec, evalX, evalXs, evalT, locV, mk, Stem.get, Stem.put, truthV, cmpV, retOf, binV, insetV, inlV, negV, minV, lenV, aatV, flat, setL, List.getElem?_cons_zero, List.getElem?_cons_succ, List.set_cons_zero, List.set_cons_succ, List.length_cons, List.length_nil, List.replicate, List.cons_append, List.nil_append, Nat.reduceAdd, Nat.reduceSub, Nat.reduceLT, Nat.reduceEqDiff, Option.bind_eq_bind, Option.bind_some, Option.map_some, decide_true, decide_false, ↓reduceIte, bne_self_eq_false, Bool.bne_true, Bool.bne_false, Bool.not_true, Bool.not_false, Bool.false_eq_true, h]
theorem g1_x : exec (callN FNS (d+6)) G1 [w0, w1, .str t, w3, w4, .slf, .int (turns : Int), .int (most : Int), .str (stemP t), y9, y10, y11] (some σ) = some (.next, [w0, w1, .str t, w3, w4, .slf, .int (turns : Int), .int (most : Int), .str (stemP t), y9, y10, y11], some σ) := by
  unfold G1
  simp only [exec, evalX, evalXs, evalT, locV, mk, Stem.get, Stem.put, truthV, cmpV, retOf, binV, insetV, inlV, negV, minV, lenV, aatV, flat, setL, List.getElem?_cons_zero, List.getElem?_cons_succ, List.set_cons_zero, List.set_cons_succ, List.length_cons, List.length_nil, List.replicate, List.cons_append, List.nil_append, Nat.reduceAdd, Nat.reduceSub, Nat.reduceLT, Nat.reduceEqDiff, Option.bind_eq_bind, Option.bind_some, Option.map_some, decide_true, decide_false, ↓reduceIte, bne_self_eq_false, Bool.bne_true, Bool.bne_false, Bool.not_true, Bool.not_false, Bool.false_eq_true, isStrV]
theorem g2_x : exec (callN FNS (d+6)) G2 [w0, w1, .str t, w3, w4, .slf, .int (turns : Int), .int (most : Int), .str (stemP t), y9, y10, y11] (some σ) = some (.next, [w0, w1, .str t, w3, w4, .slf, .int (turns : Int), .int (most : Int), .str (stemP t), .int ((lookP t).1 : Int), .str (UMt (lookP t).2), y11], some σ) := by
  have h := lookW d (some σ) t ht h89
  unfold G2
  simp only [exec, evalX, evalXs, evalT, locV, mk, Stem.get, Stem.put, truthV, cmpV, retOf, binV, insetV, inlV, negV, minV, lenV, aatV, flat, setL, List.getElem?_cons_zero, List.getElem?_cons_succ, List.set_cons_zero, List.set_cons_succ, List.length_cons, List.length_nil, List.replicate, List.cons_append, List.nil_append, Nat.reduceAdd, Nat.reduceSub, Nat.reduceLT, Nat.reduceEqDiff, Option.bind_eq_bind, Option.bind_some, Option.map_some, decide_true, decide_false, ↓reduceIte, bne_self_eq_false, Bool.bne_true, Bool.bne_false, Bool.not_true, Bool.not_false, Bool.false_eq_true, h]
theorem g3_0 (L : Tx) (hk : (lookP t).1 = 0) : exec (callN FNS (d+6)) G3 [w0, w1, .str t, w3, w4, .slf, .int (turns : Int), .int (most : Int), .str (stemP t), .int ((lookP t).1 : Int), .str L, y11] (some σ) = some (.ret (.bool true), [w0, w1, .str t, w3, w4, .slf, .int (turns : Int), .int (most : Int), .str (stemP t), .int ((lookP t).1 : Int), .str L, y11], some σ) := by
  have h1 : decide ((((lookP t).1 : Nat) : Int) = 0) = true := by rw [hk]; rfl
  have h2 : decide (stemP t = t) = true := by rw [decide_eq_true_iff]; exact F0 h89 hk
  unfold G3
  simp only [exec, evalX, evalXs, evalT, locV, mk, Stem.get, Stem.put, truthV, cmpV, retOf, binV, insetV, inlV, negV, minV, lenV, aatV, flat, setL, List.getElem?_cons_zero, List.getElem?_cons_succ, List.set_cons_zero, List.set_cons_succ, List.length_cons, List.length_nil, List.replicate, List.cons_append, List.nil_append, Nat.reduceAdd, Nat.reduceSub, Nat.reduceLT, Nat.reduceEqDiff, Option.bind_eq_bind, Option.bind_some, Option.map_some, decide_true, decide_false, ↓reduceIte, bne_self_eq_false, Bool.bne_true, Bool.bne_false, Bool.not_true, Bool.not_false, Bool.false_eq_true, h1, h2]
theorem g3_1 (k : Nat) (L : Tx) (hk : k ≠ 0) : exec (callN FNS (d+6)) G3 [w0, w1, .str t, w3, w4, .slf, .int (turns : Int), .int (most : Int), .str (stemP t), .int (k : Int), .str L, y11] (some σ) = some (.next, [w0, w1, .str t, w3, w4, .slf, .int (turns : Int), .int (most : Int), .str (stemP t), .int (k : Int), .str L, y11], some σ) := by
  have h1 : decide ((k : Int) = 0) = false := by rw [decide_eq_false_iff_not]; omega
  unfold G3
  simp only [exec, evalX, evalXs, evalT, locV, mk, Stem.get, Stem.put, truthV, cmpV, retOf, binV, insetV, inlV, negV, minV, lenV, aatV, flat, setL, List.getElem?_cons_zero, List.getElem?_cons_succ, List.set_cons_zero, List.set_cons_succ, List.length_cons, List.length_nil, List.replicate, List.cons_append, List.nil_append, Nat.reduceAdd, Nat.reduceSub, Nat.reduceLT, Nat.reduceEqDiff, Option.bind_eq_bind, Option.bind_some, Option.map_some, decide_true, decide_false, ↓reduceIte, bne_self_eq_false, Bool.bne_true, Bool.bne_false, Bool.not_true, Bool.not_false, Bool.false_eq_true, h1]
theorem g4_x (k : Nat) (L : Tx) (h1 : stemP t ≠ t) (h2 : (stemP t).length ≤ L.length) : exec (callN FNS (d+6)) G4 [w0, w1, .str t, w3, w4, .slf, .int (turns : Int), .int (most : Int), .str (stemP t), .int (k : Int), .str L, y11] (some σ) = some (.next, [w0, w1, .str t, w3, w4, .slf, .int (turns : Int), .int (most : Int), .str (stemP t), .int (k : Int), .str L, y11], some σ) := by
  have e1 : decide (stemP t = t) = false := by rw [decide_eq_false_iff_not]; exact h1
  have e2 : ¬ ((L.length : Int) < ((stemP t).length : Int)) := by omega
  unfold G4
  simp only [exec, evalX, evalXs, evalT, locV, mk, Stem.get, Stem.put, truthV, cmpV, retOf, binV, insetV, inlV, negV, minV, lenV, aatV, flat, setL, List.getElem?_cons_zero, List.getElem?_cons_succ, List.set_cons_zero, List.set_cons_succ, List.length_cons, List.length_nil, List.replicate, List.cons_append, List.nil_append, Nat.reduceAdd, Nat.reduceSub, Nat.reduceLT, Nat.reduceEqDiff, Option.bind_eq_bind, Option.bind_some, Option.map_some, decide_true, decide_false, ↓reduceIte, bne_self_eq_false, Bool.bne_true, Bool.bne_false, Bool.not_true, Bool.not_false, Bool.false_eq_true, e1, e2]
theorem g5_x (k : Nat) (L : Tx) (h : (stemP t).length = t.length → k = 3 ∧ stemP t = L) : exec (callN FNS (d+6)) G5 [w0, w1, .str t, w3, w4, .slf, .int (turns : Int), .int (most : Int), .str (stemP t), .int (k : Int), .str L, y11] (some σ) = some (.next, [w0, w1, .str t, w3, w4, .slf, .int (turns : Int), .int (most : Int), .str (stemP t), .int (k : Int), .str L, y11], some σ) := by
  by_cases hl : (stemP t).length = t.length
  · have e1 : decide (((stemP t).length : Int) = (t.length : Int)) = true := by rw [decide_eq_true_iff, hl]
    have e2 : decide ((k : Int) = 3) = true := by rw [decide_eq_true_iff, (h hl).1]; rfl
    have e3 : decide (stemP t = L) = true := by rw [decide_eq_true_iff]; exact (h hl).2
    unfold G5
    simp only [exec, evalX, evalXs, evalT, locV, mk, Stem.get, Stem.put, truthV, cmpV, retOf, binV, insetV, inlV, negV, minV, lenV, aatV, flat, setL, List.getElem?_cons_zero, List.getElem?_cons_succ, List.set_cons_zero, List.set_cons_succ, List.length_cons, List.length_nil, List.replicate, List.cons_append, List.nil_append, Nat.reduceAdd, Nat.reduceSub, Nat.reduceLT, Nat.reduceEqDiff, Option.bind_eq_bind, Option.bind_some, Option.map_some, decide_true, decide_false, ↓reduceIte, bne_self_eq_false, Bool.bne_true, Bool.bne_false, Bool.not_true, Bool.not_false, Bool.false_eq_true, e1, e2, e3]
  · have e1 : decide (((stemP t).length : Int) = (t.length : Int)) = false := by rw [decide_eq_false_iff_not]; omega
    unfold G5
    simp only [exec, evalX, evalXs, evalT, locV, mk, Stem.get, Stem.put, truthV, cmpV, retOf, binV, insetV, inlV, negV, minV, lenV, aatV, flat, setL, List.getElem?_cons_zero, List.getElem?_cons_succ, List.set_cons_zero, List.set_cons_succ, List.length_cons, List.length_nil, List.replicate, List.cons_append, List.nil_append, Nat.reduceAdd, Nat.reduceSub, Nat.reduceLT, Nat.reduceEqDiff, Option.bind_eq_bind, Option.bind_some, Option.map_some, decide_true, decide_false, ↓reduceIte, bne_self_eq_false, Bool.bne_true, Bool.bne_false, Bool.not_true, Bool.not_false, Bool.false_eq_true, e1]
theorem g6_x (k : Nat) (L : Tx) (hL : L.length ≤ 100) (hL89 : no89 L) (h : (lookP L).1 = 0 ∨ k < (lookP L).1 → stemP L = stemP t) : ∃ y11' σ', exec (callN FNS (d+6)) G6 [w0, w1, .str t, w3, w4, .slf, .int (turns : Int), .int (most : Int), .str (stemP t), .int (k : Int), .str L, y11] (some σ) = some (.next, [w0, w1, .str t, w3, w4, .slf, .int (turns : Int), .int (most : Int), .str (stemP t), .int (k : Int), .str L, y11'], some σ') := by
  by_cases h3 : (turns : Int) < 3
  · have hlk := lookW d (some σ) L hL hL89
    obtain ⟨σ', hst⟩ := stemW d σ L hL hL89
    by_cases q1 : (lookP L).1 = 0
    · have e1 : decide ((((lookP L).1 : Nat) : Int) = 0) = true := by rw [q1]; rfl
      have e2 : decide (stemP L = stemP t) = true := by rw [decide_eq_true_iff]; exact h (Or.inl q1)
      refine ⟨.tup [.int ((lookP L).1 : Int), .str (UMt (lookP L).2)], σ', ?_⟩
      unfold G6
      simp only [exec, evalX, evalXs, evalT, locV, mk, Stem.get, Stem.put, truthV, cmpV, retOf, binV, insetV, inlV, negV, minV, lenV, aatV, flat, setL, List.getElem?_cons_zero, List.getElem?_cons_succ, List.set_cons_zero, List.set_cons_succ, List.length_cons, List.length_nil, List.replicate, List.cons_append, List.nil_append, Nat.reduceAdd, Nat.reduceSub, Nat.reduceLT, Nat.reduceEqDiff, Option.bind_eq_bind, Option.bind_some, Option.map_some, decide_true, decide_false, ↓reduceIte, bne_self_eq_false, Bool.bne_true, Bool.bne_false, Bool.not_true, Bool.not_false, Bool.false_eq_true, h3, hlk, pair0, e1, hst, e2]
    · have e1 : decide ((((lookP L).1 : Nat) : Int) = 0) = false := by rw [decide_eq_false_iff_not]; omega
      by_cases q2 : k < (lookP L).1
      · have e3 : (k : Int) < (((lookP L).1 : Nat) : Int) := by omega
        have e2 : decide (stemP L = stemP t) = true := by rw [decide_eq_true_iff]; exact h (Or.inr q2)
        refine ⟨.tup [.int ((lookP L).1 : Int), .str (UMt (lookP L).2)], σ', ?_⟩
        unfold G6
        simp only [exec, evalX, evalXs, evalT, locV, mk, Stem.get, Stem.put, truthV, cmpV, retOf, binV, insetV, inlV, negV, minV, lenV, aatV, flat, setL, List.getElem?_cons_zero, List.getElem?_cons_succ, List.set_cons_zero, List.set_cons_succ, List.length_cons, List.length_nil, List.replicate, List.cons_append, List.nil_append, Nat.reduceAdd, Nat.reduceSub, Nat.reduceLT, Nat.reduceEqDiff, Option.bind_eq_bind, Option.bind_some, Option.map_some, decide_true, decide_false, ↓reduceIte, bne_self_eq_false, Bool.bne_true, Bool.bne_false, Bool.not_true, Bool.not_false, Bool.false_eq_true, h3, hlk, pair0, e1, e3, hst, e2]
      · have e3 : ¬ (k : Int) < (((lookP L).1 : Nat) : Int) := by omega
        refine ⟨.tup [.int ((lookP L).1 : Int), .str (UMt (lookP L).2)], σ, ?_⟩
        unfold G6
        simp only [exec, evalX, evalXs, evalT, locV, mk, Stem.get, Stem.put, truthV, cmpV, retOf, binV, insetV, inlV, negV, minV, lenV, aatV, flat, setL, List.getElem?_cons_zero, List.getElem?_cons_succ, List.set_cons_zero, List.set_cons_succ, List.length_cons, List.length_nil, List.replicate, List.cons_append, List.nil_append, Nat.reduceAdd, Nat.reduceSub, Nat.reduceLT, Nat.reduceEqDiff, Option.bind_eq_bind, Option.bind_some, Option.map_some, decide_true, decide_false, ↓reduceIte, bne_self_eq_false, Bool.bne_true, Bool.bne_false, Bool.not_true, Bool.not_false, Bool.false_eq_true, h3, hlk, pair0, e1, e3]
  · refine ⟨y11, σ, ?_⟩
    unfold G6
    simp only [exec, evalX, evalXs, evalT, locV, mk, Stem.get, Stem.put, truthV, cmpV, retOf, binV, insetV, inlV, negV, minV, lenV, aatV, flat, setL, List.getElem?_cons_zero, List.getElem?_cons_succ, List.set_cons_zero, List.set_cons_succ, List.length_cons, List.length_nil, List.replicate, List.cons_append, List.nil_append, Nat.reduceAdd, Nat.reduceSub, Nat.reduceLT, Nat.reduceEqDiff, Option.bind_eq_bind, Option.bind_some, Option.map_some, decide_true, decide_false, ↓reduceIte, bne_self_eq_false, Bool.bne_true, Bool.bne_false, Bool.not_true, Bool.not_false, Bool.false_eq_true, h3]
theorem g7_x (k : Nat) (L : Tx) : exec (callN FNS (d+6)) G7 [w0, w1, .str t, w3, w4, .slf, .int (turns : Int), .int (most : Int), .str (stemP t), .int (k : Int), .str L, y11] (some σ) = some (.next, [w0, w1, .str t, w3, w4, .slf, .int ((turns + 1 : Nat) : Int), .int (most : Int), .str (stemP t), .int (k : Int), .str L, y11], some σ) := by
  have e : (turns : Int) + 1 = ((turns + 1 : Nat) : Int) := by omega
  unfold G7
  simp only [exec, evalX, evalXs, evalT, locV, mk, Stem.get, Stem.put, truthV, cmpV, retOf, binV, insetV, inlV, negV, minV, lenV, aatV, flat, setL, List.getElem?_cons_zero, List.getElem?_cons_succ, List.set_cons_zero, List.set_cons_succ, List.length_cons, List.length_nil, List.replicate, List.cons_append, List.nil_append, Nat.reduceAdd, Nat.reduceSub, Nat.reduceLT, Nat.reduceEqDiff, Option.bind_eq_bind, Option.bind_some, Option.map_some, decide_true, decide_false, ↓reduceIte, bne_self_eq_false, Bool.bne_true, Bool.bne_false, Bool.not_true, Bool.not_false, Bool.false_eq_true, e]
theorem g8_x (k : Nat) (L : Tx) (h : turns ≤ most) : exec (callN FNS (d+6)) G8 [w0, w1, .str t, w3, w4, .slf, .int (turns : Int), .int (most : Int), .str (stemP t), .int (k : Int), .str L, y11] (some σ) = some (.next, [w0, w1, .str t, w3, w4, .slf, .int (turns : Int), .int (most : Int), .str (stemP t), .int (k : Int), .str L, y11], some σ) := by
  have e : ¬ ((most : Int) < (turns : Int)) := by omega
  unfold G8
  simp only [exec, evalX, evalXs, evalT, locV, mk, Stem.get, Stem.put, truthV, cmpV, retOf, binV, insetV, inlV, negV, minV, lenV, aatV, flat, setL, List.getElem?_cons_zero, List.getElem?_cons_succ, List.set_cons_zero, List.set_cons_succ, List.length_cons, List.length_nil, List.replicate, List.cons_append, List.nil_append, Nat.reduceAdd, Nat.reduceSub, Nat.reduceLT, Nat.reduceEqDiff, Option.bind_eq_bind, Option.bind_some, Option.map_some, decide_true, decide_false, ↓reduceIte, bne_self_eq_false, Bool.bne_true, Bool.bne_false, Bool.not_true, Bool.not_false, Bool.false_eq_true, e]
theorem g9_x (k : Nat) (L : Tx) : exec (callN FNS (d+6)) (.seq (.asg 2 (.loc 8)) .skip) [w0, w1, .str t, w3, w4, .slf, .int (turns : Int), .int (most : Int), .str (stemP t), .int (k : Int), .str L, y11] (some σ) = some (.next, [w0, w1, .str (stemP t), w3, w4, .slf, .int (turns : Int), .int (most : Int), .str (stemP t), .int (k : Int), .str L, y11], some σ) := by
  simp only [exec, evalX, evalXs, evalT, locV, mk, Stem.get, Stem.put, truthV, cmpV, retOf, binV, insetV, inlV, negV, minV, lenV, aatV, flat, setL, List.getElem?_cons_zero, List.getElem?_cons_succ, List.set_cons_zero, List.set_cons_succ, List.length_cons, List.length_nil, List.replicate, List.cons_append, List.nil_append, Nat.reduceAdd, Nat.reduceSub, Nat.reduceLT, Nat.reduceEqDiff, Option.bind_eq_bind, Option.bind_some, Option.map_some, decide_true, decide_false, ↓reduceIte, bne_self_eq_false, Bool.bne_true, Bool.bne_false, Bool.not_true, Bool.not_false, Bool.false_eq_true]
/-- one turn of the law -/
theorem turn_0 (hk : (lookP t).1 = 0) : ∃ ρ' σ', exec (callN FNS (d+6)) LWb [w0, w1, .str t, w3, w4, .slf, .int (turns : Int), .int (most : Int), y8, y9, y10, y11] (some σ) = some (.ret (.bool true), ρ', some σ') := by
  obtain ⟨σ1, q0⟩ := g0_x d t turns most w0 w1 w3 w4 y8 y9 y10 y11 σ ht h89
  have q1 := g1_x d t turns most w0 w1 w3 w4 y9 y10 y11 σ1 ht h89
  have q2 := g2_x d t turns most w0 w1 w3 w4 y9 y10 y11 σ1 ht h89
  have q3 := g3_0 d t turns most w0 w1 w3 w4 y11 σ1 ht h89 (UMt (lookP t).2) hk
  unfold LWb
  rw [seq_next _ q0, seq_next _ q1, seq_next _ q2, seq_ret _ q3]
  exact ⟨_, _, rfl⟩
theorem turn_1 (hk : (lookP t).1 ≠ 0) (hb : turns + psi t ≤ most + 1) : ∃ y8' y9' y10' y11' σ', exec (callN FNS (d+6)) LWb [w0, w1, .str t, w3, w4, .slf, .int (turns : Int), .int (most : Int), y8, y9, y10, y11] (some σ) = some (.next, [w0, w1, .str (stemP t), w3, w4, .slf, .int ((turns + 1 : Nat) : Int), .int (most : Int), y8', y9', y10', y11'], some σ') := by
  obtain ⟨l1, l2⟩ := lookP_le hk
  obtain ⟨p1, p2⟩ := F3 h89 hk
  have p3 := psi_ge t
  obtain ⟨σ1, q0⟩ := g0_x d t turns most w0 w1 w3 w4 y8 y9 y10 y11 σ ht h89
  have q1 := g1_x d t turns most w0 w1 w3 w4 y9 y10 y11 σ1 ht h89
  have q2 := g2_x d t turns most w0 w1 w3 w4 y9 y10 y11 σ1 ht h89
  have q3 := g3_1 d t turns most w0 w1 w3 w4 y11 σ1 ht h89 (lookP t).1 (UMt (lookP t).2) hk
  have q4 := g4_x d t turns most w0 w1 w3 w4 y11 σ1 ht h89 (lookP t).1 (UMt (lookP t).2) (F1 h89 hk) l1
  have q5 := g5_x d t turns most w0 w1 w3 w4 y11 σ1 ht h89 (lookP t).1 (UMt (lookP t).2) (fun hl => by
    obtain ⟨a, b, _⟩ := same_3 h89 hk hl
    exact ⟨a, b⟩)
  obtain ⟨y11', σ2, q6⟩ := g6_x d t turns most w0 w1 w3 w4 y11 σ1 ht h89 (lookP t).1 (UMt (lookP t).2) (by omega) (no89_UMt _) (fun h => F2 h89 hk h)
  have q7 := g7_x d t turns most w0 w1 w3 w4 y11' σ2 ht h89 (lookP t).1 (UMt (lookP t).2)
  have q8 := g8_x d t (turns + 1) most w0 w1 w3 w4 y11' σ2 ht h89 (lookP t).1 (UMt (lookP t).2) (by omega)
  have q9 := g9_x d t (turns + 1) most w0 w1 w3 w4 y11' σ2 ht h89 (lookP t).1 (UMt (lookP t).2)
  refine ⟨.str (stemP t), .int ((lookP t).1 : Int), .str (UMt (lookP t).2), y11', σ2, ?_⟩
  unfold LWb
  rw [seq_next _ q0, seq_next _ q1, seq_next _ q2, seq_next _ q3, seq_next _ q4, seq_next _ q5, seq_next _ q6, seq_next _ q7, seq_next _ q8]
  exact q9
end
theorem loop_x (d : Nat) (most : Nat) (w0 w1 w3 w4 : V) : ∀ (n : Nat) (t : Tx) (turns : Nat) (y8 y9 y10 y11 : V) (σ : Stem), t.length ≤ 100 → no89 t → turns + psi t ≤ most + 1 → psi t < n →
    ∃ ρ' σ', iterW (fun ρ σ => evalT (callN FNS (d+6)) ρ (.x (.cst (.bool true))) σ) (fun ρ σ => exec (callN FNS (d+6)) LWb ρ σ) n [w0, w1, .str t, w3, w4, .slf, .int (turns : Int), .int (most : Int), y8, y9, y10, y11] (some σ) = some (.ret (.bool true), ρ', some σ') := by
  intro n
  induction n with
  | zero => intro t turns y8 y9 y10 y11 σ ht h89 hb hn; omega
  | succ n ih =>
    intro t turns y8 y9 y10 y11 σ ht h89 hb hn
    have ev : ∀ ρ σ, evalT (callN FNS (d+6)) ρ (.x (.cst (.bool true))) σ = some (true, σ) := fun ρ σ => rfl
    by_cases hk : (lookP t).1 = 0
    · obtain ⟨ρ', σ', h⟩ := turn_0 d t turns most w0 w1 w3 w4 y8 y9 y10 y11 σ ht h89 hk
      refine ⟨ρ', σ', ?_⟩
      rw [iterW_succ, ev]
      show (exec (callN FNS (d+6)) LWb _ (some σ) >>= _) = _
      rw [h]
      rfl
    · obtain ⟨y8', y9', y10', y11', σ', h⟩ := turn_1 d t turns most w0 w1 w3 w4 y8 y9 y10 y11 σ ht h89 hk hb
      obtain ⟨p1, p2⟩ := F3 h89 hk
      obtain ⟨l1, l2⟩ := lookP_le hk
      obtain ⟨ρ', σ'', h2⟩ := ih (stemP t) (turns + 1) y8' y9' y10' y11' σ' (by omega) (no89_UMt _) (by omega) (by omega)
      refine ⟨ρ', σ'', ?_⟩
      rw [iterW_succ, ev]
      show (exec (callN FNS (d+6)) LWb _ (some σ) >>= _) = _
      rw [h]
      exact h2
theorem pcs_ok : (pcs.all fun p => decide (p.length ≤ 20) && p.all fun c => !decide (c = 89)) = true := by decide +kernel
theorem pieces_x (d : Nat) (σ : Sta) : callN FNS (d+1) 27 [] σ = some (.list (pcs.map .str), σ) := rfl
theorem tb_x (d : Nat) (w0 w1 y5 y6 y7 y8 y9 y10 y11 : V) (σ : Sta) : ∀ (ns : List Int) (t : Tx) (x3 x4 : V), t.length ≤ 13 → no89 t →
    ∃ t' x3' x4', t'.length ≤ 13 ∧ no89 t' ∧ iterF 3 (fun ρ σ => exec (callN FNS (d+6)) TB ρ σ) (ns.map .int) [w0, w1, .str t, x3, x4, y5, y6, y7, y8, y9, y10, y11] σ = some (.next, [w0, w1, .str t', x3', x4', y5, y6, y7, y8, y9, y10, y11], σ) := by
  intro ns
  induction ns with
  | nil => intro t x3 x4 ht h89; exact ⟨t, x3, x4, ht, h89, rfl⟩
  | cons n ns ih =>
    intro t x3 x4 ht h89
    have hp := pieces_x (d+5) σ
    have hn1 : 0 ≤ n % 103 := by omega
    have hn2 : n % 103 < 103 := by omega
    obtain ⟨q, hq⟩ : ∃ q : Nat, n % 103 = (q : Int) := ⟨(n % 103).toNat, by omega⟩
    have hq3 : q < pcs.length := by show q < 103; omega
    obtain ⟨p, hp1⟩ : ∃ p, pcs[q]? = some p := ⟨pcs[q], List.getElem?_eq_getElem hq3⟩
    have hidx : idxV (.list (pcs.map .str)) (.int (n % 103)) = some (.str p) := by
      rw [hq]; simp [idxV, hp1]
    have hlen : ((pcs.map V.str).length : Int) = 103 := rfl
    have hpos : (0 : Int) < 103 := by decide
    have hpok := pcs_ok
    rw [List.all_eq_true] at hpok
    have hpk := hpok p (List.mem_of_getElem? hp1)
    simp only [Bool.and_eq_true, decide_eq_true_eq, List.all_eq_true] at hpk
    by_cases hl : t.length + p.length ≤ 13
    · have hl' : (t.length : Int) + (p.length : Int) ≤ 13 := by omega
      have hsz : t.length + p.length ≤ sizeMax := by show _ ≤ 2 ^ 20; omega
      obtain ⟨t', x3', x4', h1, h2, h3⟩ := ih (t ++ p) (.int n) (.str p) (by simp; omega) (fun c hc => by
        rw [List.mem_append] at hc
        rcases hc with hc | hc
        · exact h89 c hc
        · have := hpk.2 c hc
          simp at this
          exact this)
      refine ⟨t', x3', x4', h1, h2, ?_⟩
      rw [List.map_cons, iterF_cons, ← h3]
      generalize hLL : pcs.map V.str = LL at *
      unfold TB
      simp only [exec, evalX, evalXs, evalT, locV, mk, Stem.get, Stem.put, truthV, cmpV, retOf, binV, insetV, inlV, negV, minV, lenV, aatV, flat, setL, List.getElem?_cons_zero, List.getElem?_cons_succ, List.set_cons_zero, List.set_cons_succ, List.length_cons, List.length_nil, List.replicate, List.cons_append, List.nil_append, Nat.reduceAdd, Nat.reduceSub, Nat.reduceLT, Nat.reduceEqDiff, Option.bind_eq_bind, Option.bind_some, Option.map_some, decide_true, decide_false, ↓reduceIte, bne_self_eq_false, Bool.bne_true, Bool.bne_false, Bool.not_true, Bool.not_false, Bool.false_eq_true, hp, hlen, hpos, hidx, hl', hsz]
    · have hl' : ¬ (t.length : Int) + (p.length : Int) ≤ 13 := by omega
      obtain ⟨t', x3', x4', h1, h2, h3⟩ := ih t (.int n) (.str p) ht h89
      refine ⟨t', x3', x4', h1, h2, ?_⟩
      rw [List.map_cons, iterF_cons, ← h3]
      generalize hLL : pcs.map V.str = LL at *
      unfold TB
      simp only [exec, evalX, evalXs, evalT, locV, mk, Stem.get, Stem.put, truthV, cmpV, retOf, binV, insetV, inlV, negV, minV, lenV, aatV, flat, setL, List.getElem?_cons_zero, List.getElem?_cons_succ, List.set_cons_zero, List.set_cons_succ, List.length_cons, List.length_nil, List.replicate, List.cons_append, List.nil_append, Nat.reduceAdd, Nat.reduceSub, Nat.reduceLT, Nat.reduceEqDiff, Option.bind_eq_bind, Option.bind_some, Option.map_some, decide_true, decide_false, ↓reduceIte, bne_self_eq_false, Bool.bne_true, Bool.bne_false, Bool.not_true, Bool.not_false, Bool.false_eq_true, hp, hlen, hpos, hidx, hl']
end Mine.C
end

section
set_option Elab.async false
set_option maxRecDepth 100000
set_option linter.unusedVariables false
set_option linter.unusedSimpArgs false
namespace Mine.C
theorem call34 (d : Nat) (a : V) (σ : Sta) : callN FNS (d+1) 34 [a] σ = retOf (exec (callN FNS d) b34 [a, .undef, .undef, .undef, .undef, .undef, .undef, .undef, .undef, .undef, .undef, .undef] σ) := rfl
theorem slc12 (ns : List Int) : slcV (.list (ns.map .int)) .none (.int 12) = some (.list ((ns.take 12).map .int)) := by
  rcases Nat.le_total ns.length 12 with h | h
  · simp [slcV, loOf, hiOf, Nat.min_eq_left h, List.take_of_length_le h]
    exact List.take_of_length_le (by simp)
  · simp [slcV, loOf, hiOf, Nat.min_eq_right h, List.map_take]
theorem nums_x (Φ : Phi) (v : V) (ns : List Int) (σ : Sta) : ∃ ns' : List Int, exec Φ (.ife (.not (.x (.loc 1))) (.seq (.asg 1 (.list (.cons (.cst (.int 99)) (.cons (.cst (.int 63)) (.cons (.cst (.int 86)) .nil))))) .skip) .skip) [v, .list (ns.map .int), .undef, .undef, .undef, .undef, .undef, .undef, .undef, .undef, .undef, .undef] σ
    = some (.next, [v, .list (ns'.map .int), .undef, .undef, .undef, .undef, .undef, .undef, .undef, .undef, .undef, .undef], σ) := by
  cases ns with
  | nil => exact ⟨[99, 63, 86], rfl⟩
  | cons n ns => exact ⟨n :: ns, rfl⟩
theorem new_x (d : Nat) (ρ : List V) : ∃ σ', evalX (callN FNS (d+6)) ρ (.new 13) none = some (.slf, some σ') := by
  have h := init (d+4) ⟨none, none, none, none, none, none, none, none⟩
  refine ⟨⟨some (.str []), some (.int 0), some (.int 0), some (.int 0), some (.int 0), some (.int 0), none, none⟩, ?_⟩
  show (callN FNS (d+4+2) 13 [.slf] (some ⟨none, none, none, none, none, none, none, none⟩) >>= _) = _
  rw [h]
  rfl
theorem plain_law' (d : Nat) (ns : List Int) : ∃ σ', callN FNS (d+7) 34 [.list (ns.map .int)] none = some (.bool true, σ') := by
  generalize hv : V.list (ns.map .int) = v
  have q0 : exec (callN FNS (d+6)) (.asg 1 (.slc (.loc 0) (.cst .none) (.cst (.int 12)))) [.list (ns.map .int), .undef, .undef, .undef, .undef, .undef, .undef, .undef, .undef, .undef, .undef, .undef] none = some (.next, [.list (ns.map .int), .list ((ns.take 12).map .int), .undef, .undef, .undef, .undef, .undef, .undef, .undef, .undef, .undef, .undef], none) := by
    have h := slc12 ns
    generalize hL : ns.map V.int = L at *
    simp only [exec, evalX, evalXs, evalT, locV, mk, Stem.get, Stem.put, truthV, cmpV, retOf, binV, insetV, inlV, negV, minV, lenV, aatV, flat, setL, List.getElem?_cons_zero, List.getElem?_cons_succ, List.set_cons_zero, List.set_cons_succ, List.length_cons, List.length_nil, List.replicate, List.cons_append, List.nil_append, Nat.reduceAdd, Nat.reduceSub, Nat.reduceLT, Nat.reduceEqDiff, Option.bind_eq_bind, Option.bind_some, Option.map_some, decide_true, decide_false, ↓reduceIte, bne_self_eq_false, Bool.bne_true, Bool.bne_false, Bool.not_true, Bool.not_false, Bool.false_eq_true, h]
  rw [hv] at q0
  obtain ⟨ns', q1⟩ := nums_x (callN FNS (d+6)) v (ns.take 12) none
  have q2 : exec (callN FNS (d+6)) (.asg 2 (.cst (.str []))) [v, .list (ns'.map .int), .undef, .undef, .undef, .undef, .undef, .undef, .undef, .undef, .undef, .undef] none = some (.next, [v, .list (ns'.map .int), .str [], .undef, .undef, .undef, .undef, .undef, .undef, .undef, .undef, .undef], none) := rfl
  obtain ⟨t, x3, x4, ht, h89, htb⟩ := tb_x d v (.list (ns'.map .int)) .undef .undef .undef .undef .undef .undef .undef none ns' [] .undef .undef (by simp) (fun c hc => by cases hc)
  have q3 : exec (callN FNS (d+6)) TF [v, .list (ns'.map .int), .str [], .undef, .undef, .undef, .undef, .undef, .undef, .undef, .undef, .undef] none = _ := htb
  obtain ⟨σ', hnew⟩ := new_x d [v, .list (ns'.map .int), .str t, x3, x4, .undef, .undef, .undef, .undef, .undef, .undef, .undef]
  have q4 := asg_of (callN FNS (d+6)) (i := 5) hnew (by simp)
  have q5 : exec (callN FNS (d+6)) (.asg 6 (.cst (.int 0))) [v, .list (ns'.map .int), .str t, x3, x4, .slf, .undef, .undef, .undef, .undef, .undef, .undef] (some σ') = some (.next, [v, .list (ns'.map .int), .str t, x3, x4, .slf, .int ((0 : Nat) : Int), .undef, .undef, .undef, .undef, .undef], some σ') := rfl
  have q6 : exec (callN FNS (d+6)) (.asg 7 (.bin .mul (.cst (.int 2)) (.len (.loc 2)))) [v, .list (ns'.map .int), .str t, x3, x4, .slf, .int ((0 : Nat) : Int), .undef, .undef, .undef, .undef, .undef] (some σ') = some (.next, [v, .list (ns'.map .int), .str t, x3, x4, .slf, .int ((0 : Nat) : Int), .int ((2 * t.length : Nat) : Int), .undef, .undef, .undef, .undef], some σ') := by
    have e : (2 : Int) * (t.length : Int) = ((2 * t.length : Nat) : Int) := by omega
    simp only [exec, evalX, evalXs, evalT, locV, mk, Stem.get, Stem.put, truthV, cmpV, retOf, binV, insetV, inlV, negV, minV, lenV, aatV, flat, setL, List.getElem?_cons_zero, List.getElem?_cons_succ, List.set_cons_zero, List.set_cons_succ, List.length_cons, List.length_nil, List.replicate, List.cons_append, List.nil_append, Nat.reduceAdd, Nat.reduceSub, Nat.reduceLT, Nat.reduceEqDiff, Option.bind_eq_bind, Option.bind_some, Option.map_some, decide_true, decide_false, ↓reduceIte, bne_self_eq_false, Bool.bne_true, Bool.bne_false, Bool.not_true, Bool.not_false, Bool.false_eq_true, e]
  have hps := psi_le t
  obtain ⟨ρ', σ'', hloop⟩ := loop_x d (2 * t.length) v (.list (ns'.map .int)) x3 x4 1000 t 0 .undef .undef .undef .undef σ' (by omega) h89 (by omega) (by omega)
  have w := (whl_of (callN FNS (d+6)) (.x (.cst (.bool true))) LWb _ _).trans hloop
  change exec (callN FNS (d+6)) LW _ _ = _ at w
  refine ⟨some σ'', ?_⟩
  rw [call34, b34_eq]
  rw [seq_next _ q0, seq_next _ q1, seq_next _ q2, seq_next _ q3, seq_next _ q4]
  show retOf (exec (callN FNS (d+6)) _ [v, .list (ns'.map .int), .str t, x3, x4, .slf, .undef, .undef, .undef, .undef, .undef, .undef] (some σ')) = _
  rw [seq_next _ q5, seq_next _ q6, seq_ret _ w]
  rfl
theorem plain_law (ns : List Int) : ∃ σ', callN FNS 13 34 [.list (ns.map .int)] none = some (.bool true, σ') := plain_law' 6 ns
end Mine.C
end

section
open PySem PySem.W PySem.Calls PyProof.Rows
set_option Elab.async false
set_option maxRecDepth 100000
set_option linter.unusedVariables false
namespace Mine
noncomputable def endS (w : World) : Shared := (openEnds treeTable P0 w 20000).getD (⟨{}, #[], {}, 0, {}⟩ : Shared)
def YPm (w : World) (h : Heap) : Prop := ∃ K : Frag, factsB K = true ∧ K.In h ∧ setAt h w P0 232 false ∧ setAt h w P0 233 true
theorem str_beq (x a : Tx) : (strOf x == strOf a) = (x == a) := by
  rw [Bool.eq_iff_iff, beq_iff_eq, beq_iff_eq]
  constructor
  · intro h
    have h2 : (strOf x).cps = (strOf a).cps := by rw [h]
    have h3 : x.toArray = a.toArray := h2
    have h4 := congrArg Array.toList h3
    simpa using h4
  · intro h; rw [h]
theorem contains_str : ∀ (l : List Tx) (x : Tx), (l.map strOf).contains (strOf x) = l.contains x
  | [], _ => rfl
  | a :: l, x => by
    rw [List.map_cons, List.contains_cons, List.contains_cons, str_beq, contains_str l x]
theorem vow_x (x : Tx) : (vowelSet.contains (strOf x)) = (setTx false).contains x := by
  have : vowelSet = vowelTx.map strOf := by decide +kernel
  rw [this]; exact contains_str _ _
theorem wxy_x (x : Tx) : (wxySet.contains (strOf x)) = (setTx true).contains x := by
  have : wxySet = wxyTx.map strOf := by decide +kernel
  rw [this]; exact contains_str _ _
theorem left_m : LeftO P0 Q0 looseN (fun _ => true) (fun s => s) endS 20000 := by
  intro w
  obtain ⟨os, es, ep, t, pos, es', ep', t', pos', h1, h2, h3, h4, h5⟩ := top_run w
  unfold endS
  rw [h3]
  simp only [Option.map_some, Option.getD_some, h4]
theorem yp_m (w : World) (s : Shared) (h : s = endS w) : YPm w s.heap := by
  obtain ⟨os, es, ep, t, pos, es', ep', t', pos', h1, h2, h3, h4, K, k1, k2, k3, k4⟩ := top_run w
  have e : s = S8 w os es ep t pos es' ep' t' pos' := by rw [h]; unfold endS; rw [h3]; rfl
  rw [e]
  exact ⟨K, k1, k2, setAt_of h1 vow_x (by decide) k3, setAt_of h2 wxy_x (by decide) k4⟩
theorem yp_keep (w : World) (h h' : Heap) (y : YPm w h) (k : ∀ b o, h.get? b = some o → h'.get? b = some o) : YPm w h' := by
  obtain ⟨K, k1, k2, ⟨o, S, n, a1, a2, a3, a4⟩, ⟨o', S', n', b1, b2, b3, b4⟩⟩ := y
  exact ⟨K, k1, fun a x e => k _ _ (k2 a x e), ⟨o, S, n, k _ _ a1, a2, a3, a4⟩, ⟨o', S', n', k _ _ b1, b2, b3, b4⟩⟩
end Mine
namespace Mine
/-- the script, as the walk wants it -/
theorem rv_script {K : Frag} {h : Heap} {la : Addr} {vs : List Value} {ns : List Int} (hL : h.IsList la vs.toArray) (hI : IntsAre vs ns) (hlen : ¬ (63 : Int) < (ns.length : Int)) : RvL K none h [.list (ns.map .int)] [.ref la] := by
  have hz : ns.length ≤ 2 ^ 20 := by
    have : (63 : Nat) ≤ 2 ^ 20 := by decide
    omega
  refine .cons (.list (items := vs) hL (by rw [List.length_map]; exact hI.length) (by rw [List.length_map]; exact hz) ?_) .nil
  intro i v x h1 h2
  obtain ⟨n, t, e1, e2⟩ := hI.at i x h2
  rw [List.getElem?_map, e2] at h1
  cases h1
  rw [e1]
  exact .int n t
/-- the law, called by the claim's caller, answers True -/
theorem walk_m {w : World} {s₁ : Shared} {mg mb : Str → Option Value} {mean : ExcName → Option Value} {lw : List Str} {fa la : Addr} {vs : List Value} {ns : List Int} {K : Frag} (k1 : factsB K = true) (k2 : K.In s₁.heap) (a0 : setAt s₁.heap w P0 232 false) (a1 : setAt s₁.heap w P0 233 true)
    (T : Top (view P0 [21]) lw mean mg mb s₁.heap) (hmg : mg "law" = some (.ref fa)) (hg : s₁.gens = #[]) (hL : s₁.heap.IsList la vs.toArray) (hI : IntsAre vs ns) (hlen : ¬ (63 : Int) < (ns.length : Int)) {Q : Value → Shared → Prop} {E : Value → Shared → Prop}
    (P : ∀ s' L m, Fr s₁.heap L s'.heap m → s'.gens = #[] → s'.os = s₁.os → Q (.bool true) s') : wpAny (model P0 w) callerA (call (.ref fa) [.ref la]) Q E s₁ := by
  have H : AllFn (⟨P0, w, s₁.heap, K, s₁.os, mean, mg, mb, view P0 [21], lw⟩ : Wd) := facts_of k1 k2 T a0 a1
  have e : mg "law" = some (Value.ref 671) := mg_of k2 T.g (H.ok.fn 34 false "law" 671 rfl).2.2
  have hfa : fa = 671 := Value.ref.inj (Option.some.inj (hmg.symm.trans e))
  subst hfa
  obtain ⟨σ', hp⟩ := Mine.C.plain_law ns
  refine wpAny_call (top_sound (A' := callerA) (d := 12) H rfl rfl hg rfl rfl (by decide) (by decide) (rv_script hL hI hlen) hp ?_)
  intro s' L m g' val F e1 e2 rv
  cases rv
  exact P s' L m F e1 e2
end Mine
set_option maxHeartbeats 4000000 in
theorem PySem.Challenge.cw_af0031_01_holds : PySem.Challenge.rw_af0031_01.Holds := by
  w_on
  o_law
  refine PySem.W.holds_open (q := view PySem.Challenge.pw_af0031_01 [21]) (loose := Mine.looseN) (Xt := fun _ => true) (XP := fun _ _ => True) (Yf := fun s => s) (Ya := Mine.endS) (YP := Mine.YPm) (N := 20000) Mine.left_m Mine.yp_m Mine.yp_keep (fun _ _ => trivial) (fun _ _ _ _ _ => trivial) (by rfl) (by rfl) (by rfl) (fun s e => recFacts_nil rfl) (by rfl) (by assumption) (by decide +kernel) ⟨rfl, rfl, rfl, rfl, rfl, by decide +kernel⟩ ?hw ?hc
  case hw => w_witness2
  case hc =>
    intro w s₀ s₁ mg mb G hY fa o pm cd doc dV kV ho hd hcd hdf hmg hg args vals as hpre hlay hrd hwl hlo
    clear hd hdf hcd
    obtain ⟨K, k1, k2, a0, a1⟩ := hY
    have T := G.T
    wrow_args hpre hlay hrd hwl hlo
    rename_i ns q1 q2 q3 q4 q5 u4 u3 la vs u0 hL ra w1 r0 hI q6 hlen q7
    refine Mine.walk_m (mean := ExcName.means s₀.heap) (lw := looseW (view Mine.P0 [21]) Mine.looseN) k1 k2 a0 a1 T hmg hg hL hI hlen ?_
    intro s' L m F e1 e2
    exact GoodW.toG (goodW_bool F e1 (fun _ => rfl) (by wrow_post) e2)
end
