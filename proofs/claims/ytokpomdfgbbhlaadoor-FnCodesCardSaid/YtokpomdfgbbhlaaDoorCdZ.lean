/- FnCodes: a file with another byte of its signature or size of sectors is an error of its format, a short one an error of reading (part 12 of 12). No condition but the statement's own. -/
import Derived.Laws.AppendOwnNone
import Derived.BigQuiet
import Derived.Clock
import Derived.LaidMore
import Derived.LaidOnce
import Derived.OpenVars
import Derived.SevenTiedAt
import Derived.Test.YtokpomdfgbbhlaaDoorCdk
set_option linter.all false
set_option linter.unusedVariables false
set_option linter.unusedSimpArgs false
set_option linter.unnecessarySimpa false
/- Nodes in their order with their paths: what spec.Order's closure keeps; the drawn region that adds one. -/
namespace Go.Proofs.YtokpomdfgbbhlaaDoor
open Go Go.RowKit

/-- The paths of a tree's nodes, in order. -/
def NT.pths (nm : Nat → ByteArray) : NT → List ByteArray → List (List ByteArray)
  | nil, _ => []
  | node e l c r, p => l.pths nm p ++ p :: (c.pths nm (if e = 0 then p else p ++ [nm e]) ++ r.pths nm p)
theorem NT.pths_len (nm : Nat → ByteArray) : ∀ (t : NT) (p : List ByteArray), (t.pths nm p).length = t.order.length
  | nil, _ => rfl
  | node e l c r, p => by simp [NT.pths, NT.order, NT.pths_len nm l, NT.pths_len nm c, NT.pths_len nm r]
theorem NT.pths_snd (nm : Nat → ByteArray) : ∀ (t : NT) (p : List ByteArray), (t.toTr.paths nm p).map Prod.snd = t.pths nm p
  | nil, _ => rfl
  | node e l c r, p => by simp [NT.toTr, Tr.paths, NT.pths, NT.pths_snd nm l, NT.pths_snd nm c, NT.pths_snd nm r]

/-- What the closure captures and what it reaches. -/
structure OEnv where
  (fb lx yb zb lb N lcap : Nat)
  (nd : Nat → Nd)
  (dv : Nat → Value)
  (w0 : World)
def OEnv.base (O : OEnv) : Nat := O.w0.heap.size
def OEnv.caps (O : OEnv) : Array Value := #[.pointer (some ⟨O.fb, 0, none⟩), .pointer (some ⟨O.lx, 0, none⟩), .pointer (some ⟨O.yb, 0, none⟩), .pointer (some ⟨O.zb, 0, none⟩)]
def OEnv.nm (O : OEnv) (k : Nat) : ByteArray := (O.nd k).name

/-- Slices of texts. -/
def PathsAre (w : World) (base : Nat) (vs : List Value) (ps : List (List ByteArray)) : Prop := vs.length = ps.length ∧ ∀ i, i < vs.length → TextsIs w base (vs.getD i undef) (ps.getD i [])

structure OSt (O : OEnv) (w : World) (os : List Nat) (ps : List (List ByteArray)) : Prop where
  rec_ : Blk w O.fb 102 [.func (.func 33) #[] O.caps]
  box : Blk w O.lx 25 [.slice (some ⟨O.lb, 0, none⟩) O.N O.lcap]
  row : NdRow w O.lb O.N O.nd O.dv
  fr : Fr [] O.w0 w
  yb : O.base ≤ O.yb
  zb : O.base ≤ O.zb
  pl : ∃ v, Blk w O.yb 31 [v] ∧ w.ownsRow O.base 3 1 v os.length (os.map (fun e => I64 e))
  pa : ∃ v vs, Blk w O.zb 32 [v] ∧ w.ownsRow O.base 35 1 v os.length vs ∧ PathsAre w O.base vs ps

/-- Texts that stood stand. -/
def TxtKeep (base : Nat) (w w' : World) : Prop := ∀ v q, TextsIs w base v q → TextsIs w' base v q
theorem TxtKeep.refl (base : Nat) (w : World) : TxtKeep base w w := fun _ _ h => h
theorem TxtKeep.trans {base : Nat} {a b c : World} (h : TxtKeep base a b) (k : TxtKeep base b c) : TxtKeep base a c := fun v q x => k v q (h v q x)
theorem TxtKeep.of_fr {base : Nat} {w w' : World} {ms : List Nat} (f : Fr ms w w') (hm : ∀ b cs, w.heap[b]? = some (.cells cs 9 (0, 0)) → b ∉ ms) : TxtKeep base w w' := by
  intro v q h
  refine own_fr h f (fun k hk => ?_)
  rcases h.2 with ⟨rfl, _⟩ | ⟨g, cap, cur, rfl, _, hg, _⟩
  · simp [Value.ownBlock] at hk
  · simp [Value.ownBlock] at hk
    subst hk
    exact hm _ _ hg

theorem OSt.fr0 {O : OEnv} {w w' : World} {os : List Nat} {ps : List (List ByteArray)} (h : OSt O w os ps) (f : Fr [] w w') : OSt O w' os ps where
  rec_ := h.rec_.fr0 f
  box := h.box.fr0 f
  row := h.row.fr f (by simp)
  fr := h.fr.trans0 f
  yb := h.yb
  zb := h.zb
  pl := by
    obtain ⟨v, a, b⟩ := h.pl
    exact ⟨v, a.fr0 f, own_fr0 b f⟩
  pa := by
    obtain ⟨v, vs, a, b, c⟩ := h.pa
    exact ⟨v, vs, a.fr0 f, own_fr0 b f, c.1, fun i hi => own_fr0 (c.2 i hi) f⟩
/-- What the region knows. -/
structure RE where
  (O : OEnv)
  (wc : World)
  (v3 v35 pv : Value)
  (e n : Nat)
  (pls vs : List Value)

/-- What stands while the region goes on. -/
structure RE.J (R : RE) (L : Nat → Bool) (w : World) : Prop where
  fr : Fr (R.O.yb :: R.O.zb :: (R.v3.ownBlock.toList ++ R.v35.ownBlock.toList)) R.wc w
  y0 : L 8 = false → Blk w R.O.yb 31 [R.v3]
  z0 : L 9 = false → Blk w R.O.zb 32 [R.v35]
  p0 : L 3 = false → w.ownsRow R.O.base 3 1 R.v3 R.n R.pls
  q0 : L 7 = false → w.ownsRow R.O.base 35 1 R.v35 R.n R.vs
  y1 : L 8 = true → ∃ v, Blk w R.O.yb 31 [v] ∧ w.ownsRow R.O.base 3 1 v (R.n + 1) (R.pls ++ [I64 R.e])
  z1 : L 9 = true → ∃ v, Blk w R.O.zb 32 [v] ∧ w.ownsRow R.O.base 35 1 v (R.n + 1) (R.vs ++ [R.pv])

def RE.Sp (R : RE) : Nat → World → Value → Prop
  | 0, _, v => v = R.v3
  | 1, _, v => v = I64 R.e
  | 2, w, v => ∃ g, v = .slice (some ⟨g, 0, none⟩) 1 1 ∧ Blk w g 3 [I64 R.e] ∧ R.wc.heap.size ≤ g
  | 3, w, v => w.ownsRow R.O.base 3 1 v (R.n + 1) (R.pls ++ [I64 R.e])
  | 4, _, v => v = R.v35
  | 5, _, v => v = R.pv
  | 6, w, v => ∃ g, v = .slice (some ⟨g, 0, none⟩) 1 1 ∧ Blk w g 35 [R.pv] ∧ R.wc.heap.size ≤ g
  | 7, w, v => w.ownsRow R.O.base 35 1 v (R.n + 1) (R.vs ++ [R.pv])
  | _, _, _ => True

/-- What a step of the region leaves alone. -/
theorem RE.Sp_fr (R : RE) {w w' : World} {ms : List Nat} (f : Fr ms w w') (i : Nat) (u : Value) (h3 : ∀ b l, Blk w b 3 l → R.wc.heap.size ≤ b → b ∉ ms) (h35 : ∀ b l, Blk w b 35 l → R.wc.heap.size ≤ b → b ∉ ms)
    (o3 : i = 3 → ∀ v n xs, w.ownsRow R.O.base 3 1 v n xs → ∀ k, v.ownBlock = some k → k ∉ ms) (o35 : i = 7 → ∀ v n xs, w.ownsRow R.O.base 35 1 v n xs → ∀ k, v.ownBlock = some k → k ∉ ms) (h : R.Sp i w u) : R.Sp i w' u := by
  unfold RE.Sp at h ⊢
  split at h
  all_goals first
    | exact h
    | exact own_fr h f (o3 rfl _ _ _ h)
    | exact own_fr h f (o35 rfl _ _ _ h)
    | (obtain ⟨g, e1, e2, e3⟩ := h; exact ⟨g, e1, e2.fr f (h3 _ _ e2 e3), e3⟩)
    | (obtain ⟨g, e1, e2, e3⟩ := h; exact ⟨g, e1, e2.fr f (h35 _ _ e2 e3), e3⟩)

section
variable {R : RE} {L : Nat → Bool} {w w' : World}
theorem RE.J.alloc (h : R.J L w) (f : Fr [] w w') (i : Nat) (hi : i ≠ 3 ∧ i ≠ 7 ∧ i ≠ 8 ∧ i ≠ 9) : R.J (lSet L i) w' where
  fr := h.fr.trans0 f
  y0 := fun hl => (h.y0 (by rwa [lSet_ne _ _ _ (Ne.symm hi.2.2.1)] at hl)).fr0 f
  z0 := fun hl => (h.z0 (by rwa [lSet_ne _ _ _ (Ne.symm hi.2.2.2)] at hl)).fr0 f
  p0 := fun hl => own_fr0 (h.p0 (by rwa [lSet_ne _ _ _ (Ne.symm hi.1)] at hl)) f
  q0 := fun hl => own_fr0 (h.q0 (by rwa [lSet_ne _ _ _ (Ne.symm hi.2.1)] at hl)) f
  y1 := fun hl => by
    obtain ⟨v, a, b⟩ := h.y1 (by rwa [lSet_ne _ _ _ (Ne.symm hi.2.2.1)] at hl)
    exact ⟨v, a.fr0 f, own_fr0 b f⟩
  z1 := fun hl => by
    obtain ⟨v, a, b⟩ := h.z1 (by rwa [lSet_ne _ _ _ (Ne.symm hi.2.2.2)] at hl)
    exact ⟨v, a.fr0 f, own_fr0 b f⟩
theorem RE.Sp_alloc (f : Fr [] w w') (i : Nat) (u : Value) (h : R.Sp i w u) : R.Sp i w' u :=
  R.Sp_fr f i u (fun _ _ _ _ => by simp) (fun _ _ _ _ => by simp) (fun _ _ _ _ _ _ _ => by simp) (fun _ _ _ _ _ _ _ => by simp) h

theorem own_lt_not {w0 : World} {base : Nat} {e : TypeId} {size n : Nat} {v : Value} {xs : List Value} (h : w0.ownsRow base e size v n xs) {b : Nat} (hb : w0.heap.size ≤ b) : b ∉ v.ownBlock.toList := fun hx => by
  have := (h.lt b (by simpa using hx)).2
  omega

theorem RE.J.app3 (h : R.J L w) (h3 : L 3 = false) (h8 : L 8 = false) (h9 : L 9 = false) (hw3 : R.wc.ownsRow R.O.base 3 1 R.v3 R.n R.pls) (f : Fr R.v3.ownBlock.toList w w') : R.J (lSet L 3) w' ∧ ∀ j u, L j = true → R.Sp j w u → R.Sp j w' u := by
  have hp := h.p0 h3
  refine ⟨{
    fr := h.fr.trans_same (f.mono (fun x hx => .inl (by simp [hx])))
    y0 := fun hl => (h.y0 h8).fr f (own_ne hp (h.y0 h8) (by decide))
    z0 := fun hl => (h.z0 h9).fr f (own_ne hp (h.z0 h9) (by decide))
    p0 := fun hl => by rw [lSet_self] at hl; cases hl
    q0 := fun hl => by
      have hq := h.q0 (by rwa [lSet_ne _ _ _ (by decide)] at hl)
      exact own_fr hq f (own_sep hq hp (by decide))
    y1 := fun hl => by rw [lSet_ne _ _ _ (by decide), h8] at hl; cases hl
    z1 := fun hl => by rw [lSet_ne _ _ _ (by decide), h9] at hl; cases hl }, fun j u hj hs => ?_⟩
  refine R.Sp_fr f j u (fun b l _ hb => own_lt_not hw3 hb) (fun b l hb _ => own_ne hp hb (by decide)) (fun e => by subst e; rw [h3] at hj; cases hj) (fun _ v n xs ho => own_sep ho hp (by decide)) hs

theorem RE.J.app7 (h : R.J L w) (h7 : L 7 = false) (h8 : L 8 = false) (h9 : L 9 = false) (h3 : L 3 = true) (hw35 : R.wc.ownsRow R.O.base 35 1 R.v35 R.n R.vs) (f : Fr R.v35.ownBlock.toList w w') : R.J (lSet L 7) w' ∧ ∀ j u, L j = true → R.Sp j w u → R.Sp j w' u := by
  have hq := h.q0 h7
  refine ⟨{
    fr := h.fr.trans_same (f.mono (fun x hx => .inl (by simp [hx])))
    y0 := fun hl => (h.y0 h8).fr f (own_ne hq (h.y0 h8) (by decide))
    z0 := fun hl => (h.z0 h9).fr f (own_ne hq (h.z0 h9) (by decide))
    p0 := fun hl => by rw [lSet_ne _ _ _ (by decide), h3] at hl; cases hl
    q0 := fun hl => by rw [lSet_self] at hl; cases hl
    y1 := fun hl => by rw [lSet_ne _ _ _ (by decide), h8] at hl; cases hl
    z1 := fun hl => by rw [lSet_ne _ _ _ (by decide), h9] at hl; cases hl }, fun j u hj hs => ?_⟩
  refine R.Sp_fr f j u (fun b l hb _ => own_ne hq hb (by decide)) (fun b l _ hb => own_lt_not hw35 hb) (fun _ v n xs ho => own_sep ho hq (by decide)) (fun e => by subst e; rw [h7] at hj; cases hj) hs

theorem RE.J.st8 (h : R.J L w) (h8 : L 8 = false) (h9 : L 9 = false) (h3 : L 3 = true) (h7 : L 7 = true) (v : Value) (hv : w.ownsRow R.O.base 3 1 v (R.n + 1) (R.pls ++ [I64 R.e])) :
    R.J (lSet L 8) (w.setRow R.O.yb #[v]) ∧ ∀ j u, L j = true → R.Sp j w u → R.Sp j (w.setRow R.O.yb #[v]) u := by
  have f := setRow_fr w R.O.yb #[v]
  have hy := h.y0 h8
  have hz := h.z0 h9
  have hyz : R.O.zb ≠ R.O.yb := fun e => by rw [e] at hz; exact absurd (hz.unique hy).1 (by decide)
  have on : ∀ {e : TypeId} {u : Value} {n : Nat} {xs : List Value}, w.ownsRow R.O.base e 1 u n xs → e ≠ 31 → ∀ k, u.ownBlock = some k → k ∉ [R.O.yb] := fun ho he k hk hx => by
    have e : k = R.O.yb := by simpa using hx
    subst e
    exact own_ne ho hy (Ne.symm he) (by simpa using hk)
  have bn : ∀ {b : Nat} {T : TypeId} {l : List Value}, Blk w b T l → T ≠ 31 → b ∉ [R.O.yb] := by
    intro b T l hb hT hx
    have e : b = R.O.yb := by simpa using hx
    rw [e] at hb
    exact hT (hb.unique hy).1
  refine ⟨{
    fr := h.fr.trans_same (f.mono (fun x hx => .inl (by simp at hx; simp [hx])))
    y0 := fun hl => by rw [lSet_self] at hl; cases hl
    z0 := fun hl => hz.fr f (by simpa using hyz)
    p0 := fun hl => by rw [lSet_ne _ _ _ (by decide), h3] at hl; cases hl
    q0 := fun hl => by rw [lSet_ne _ _ _ (by decide), h7] at hl; cases hl
    y1 := fun hl => ⟨v, setRow_blk hy, own_fr hv f (on hv (by decide))⟩
    z1 := fun hl => by rw [lSet_ne _ _ _ (by decide), h9] at hl; cases hl }, fun j u hj hs => ?_⟩
  exact R.Sp_fr f j u (fun b l hb _ => bn hb (by decide)) (fun b l hb _ => bn hb (by decide)) (fun _ v n xs ho => on ho (by decide)) (fun _ v n xs ho => on ho (by decide)) hs

theorem RE.J.st9 (h : R.J L w) (h9 : L 9 = false) (h8 : L 8 = true) (h3 : L 3 = true) (h7 : L 7 = true) (v : Value) (hv : w.ownsRow R.O.base 35 1 v (R.n + 1) (R.vs ++ [R.pv])) :
    R.J (lSet L 9) (w.setRow R.O.zb #[v]) ∧ ∀ j u, L j = true → R.Sp j w u → R.Sp j (w.setRow R.O.zb #[v]) u := by
  have f := setRow_fr w R.O.zb #[v]
  obtain ⟨y, hy, hyo⟩ := h.y1 h8
  have hz := h.z0 h9
  have hyz : R.O.yb ≠ R.O.zb := fun e => by rw [e] at hy; exact absurd (hy.unique hz).1 (by decide)
  have on : ∀ {e : TypeId} {u : Value} {n : Nat} {xs : List Value}, w.ownsRow R.O.base e 1 u n xs → e ≠ 32 → ∀ k, u.ownBlock = some k → k ∉ [R.O.zb] := fun ho he k hk hx => by
    have e : k = R.O.zb := by simpa using hx
    subst e
    exact own_ne ho hz (Ne.symm he) (by simpa using hk)
  have bn : ∀ {b : Nat} {T : TypeId} {l : List Value}, Blk w b T l → T ≠ 32 → b ∉ [R.O.zb] := by
    intro b T l hb hT hx
    have e : b = R.O.zb := by simpa using hx
    rw [e] at hb
    exact hT (hb.unique hz).1
  refine ⟨{
    fr := h.fr.trans_same (f.mono (fun x hx => .inl (by simp at hx; simp [hx])))
    y0 := fun hl => by rw [lSet_ne _ _ _ (by decide), h8] at hl; cases hl
    z0 := fun hl => by rw [lSet_self] at hl; cases hl
    p0 := fun hl => by rw [lSet_ne _ _ _ (by decide), h3] at hl; cases hl
    q0 := fun hl => by rw [lSet_ne _ _ _ (by decide), h7] at hl; cases hl
    y1 := fun hl => ⟨y, hy.fr f (bn hy (by decide)), own_fr hyo f (on hyo (by decide))⟩
    z1 := fun hl => ⟨v, setRow_blk hz, own_fr hv f (on hv (by decide))⟩ }, fun j u hj hs => ?_⟩
  exact R.Sp_fr f j u (fun b l hb _ => bn hb (by decide)) (fun b l hb _ => bn hb (by decide)) (fun _ v n xs ho => on ho (by decide)) (fun _ v n xs ho => on ho (by decide)) hs
end

theorem PathsAre.keep {w w' : World} {base : Nat} {vs : List Value} {ps : List (List ByteArray)} (h : PathsAre w base vs ps) (k : TxtKeep base w w') : PathsAre w' base vs ps := ⟨h.1, fun i hi => k _ _ (h.2 i hi)⟩
theorem PathsAre.snoc {w : World} {base : Nat} {vs : List Value} {ps : List (List ByteArray)} {v : Value} {p : List ByteArray} (h : PathsAre w base vs ps) (hv : TextsIs w base v p) : PathsAre w base (vs ++ [v]) (ps ++ [p]) := by
  refine ⟨by simp [h.1], fun i hi => ?_⟩
  simp only [List.length_append, List.length_singleton] at hi
  by_cases h1 : i < vs.length
  · have := h.2 i h1
    rw [List.getD_eq_getElem?_getD, List.getD_eq_getElem?_getD] at this ⊢
    rw [List.getElem?_append_left h1, List.getElem?_append_left (by rw [← h.1]; exact h1)]
    exact this
  · obtain rfl : i = vs.length := by omega
    rw [List.getD_eq_getElem?_getD, List.getD_eq_getElem?_getD, List.getElem?_append_right (Nat.le_refl _), h.1, List.getElem?_append_right (Nat.le_refl _)]
    simpa using hv

/-- The region done: one more. -/
theorem RE.done {R : RE} {L : Nat → Bool} {w : World} {os : List Nat} {ps : List (List ByteArray)} {p : List ByteArray} (h : R.J L w) (h8 : L 8 = true) (h9 : L 9 = true) (hO : OSt R.O R.wc os ps) (hpl : R.pls = os.map (fun e => I64 e)) (hn : R.n = os.length)
    (hy : Blk R.wc R.O.yb 31 [R.v3]) (hyo : R.wc.ownsRow R.O.base 3 1 R.v3 R.n R.pls) (hz : Blk R.wc R.O.zb 32 [R.v35]) (hzo : R.wc.ownsRow R.O.base 35 1 R.v35 R.n R.vs) (hpa : PathsAre R.wc R.O.base R.vs ps) (hp : TextsIs R.wc R.O.base R.pv p) :
    OSt R.O w (os ++ [R.e]) (ps ++ [p]) ∧ TxtKeep R.O.base R.wc w := by
  have hne : ∀ {b : Nat} {T : TypeId} {l : List Value}, Blk R.wc b T l → T ≠ 31 → T ≠ 32 → T ≠ 3 → T ≠ 35 → b ∉ R.O.yb :: R.O.zb :: (R.v3.ownBlock.toList ++ R.v35.ownBlock.toList) := by
    intro b T l hb a1 a2 a3 a4 hx
    simp only [List.mem_cons, List.mem_append] at hx
    rcases hx with rfl | rfl | hx | hx
    · exact a1 (hb.unique hy).1
    · exact a2 (hb.unique hz).1
    · exact own_ne hyo hb a3 hx
    · exact own_ne hzo hb a4 hx
  have hk : TxtKeep R.O.base R.wc w := TxtKeep.of_fr h.fr (fun b cs hb => hne (T := 9) (l := cs.toList) (by simpa [Blk] using hb) (by decide) (by decide) (by decide) (by decide))
  obtain ⟨y, hy1, hy2⟩ := h.y1 h8
  obtain ⟨z, hz1, hz2⟩ := h.z1 h9
  have hb0 : ∀ x, x ∈ R.O.yb :: R.O.zb :: (R.v3.ownBlock.toList ++ R.v35.ownBlock.toList) → R.O.w0.heap.size ≤ x := by
    intro x hx
    simp only [List.mem_cons, List.mem_append] at hx
    rcases hx with rfl | rfl | hx | hx
    · exact hO.yb
    · exact hO.zb
    · exact (hyo.lt x (by simpa using hx)).1
    · exact (hzo.lt x (by simpa using hx)).1
  refine ⟨{
    rec_ := hO.rec_.fr h.fr (hne hO.rec_ (by decide) (by decide) (by decide) (by decide))
    box := hO.box.fr h.fr (hne hO.box (by decide) (by decide) (by decide) (by decide))
    row := by
      obtain ⟨l, hl, hc⟩ := hO.row
      exact ⟨l, hl.fr h.fr (hne hl (by decide) (by decide) (by decide) (by decide)), hc⟩
    fr := hO.fr.trans h.fr (fun x hx => .inr (hb0 x hx))
    yb := hO.yb
    zb := hO.zb
    pl := ⟨y, hy1, by rw [hpl, hn] at hy2; simpa using hy2⟩
    pa := ⟨z, R.vs ++ [R.pv], hz1, by rw [hn] at hz2; simpa using hz2, (hpa.keep hk).snoc (hk _ _ hp)⟩ }, hk⟩
end Go.Proofs.YtokpomdfgbbhlaaDoor

/- The contract of spec.Order's closure, by induction on the tree. -/
namespace Go.Proofs.YtokpomdfgbbhlaaDoor
open Go Go.RowKit

theorem info35 : (Tryd.prog.info? 35).map (fun i => (i.zero, i.size, i.bytes)) = some (some (.slice none 0 0), 1, 24) := by kernel_rfl

theorem own_lit0 (w : World) (e : TypeId) (base : Nat) (hb : base ≤ w.heap.size) : (w.alloc (.cells #[] e)).ownsRow base e 1 (.slice (some ⟨w.heap.size, 0, none⟩) 0 0) 0 [] := World.ownsRow_made w #[] 0 hb (by unfold maxLen; omega) rfl

/-- A path's texts appended onto an empty row of the call's own; the path may be nil. -/
theorem step_append_txt {ops : Array Oper} {o : Oper} {a : Act} {w : World} {K : Act → World → Prop} {Q : Exit → Act → World → Prop} {E : Prop} (hgd : o.guard = none) (s x : Operand) (ho : o.op = .call { callee := .builtin .append, args := #[s, x], argTypes := #[35, 35] })
    (base base0 : Nat) (v u : Value) (p : List ByteArray) (hs : a.eval s = v) (hown : w.ownsRow base 9 1 v 0 []) (hx : a.eval x = u) (hu : TextsIs w base0 u p) (hlen : p.length ≤ 100000) (hb : base ≤ w.heap.size)
    (h : ∀ v' w', w'.ownsRow base 9 1 v' p.length (p.map Value.string) → Fr v.ownBlock.toList w w' → K (a.put o.dst v') w') : if Region.wanted o (yielded ops a.tmps) = true then Oper.wp Tryd.prog o a w K Q else E := by
  have hw : Region.wanted o (yielded ops a.tmps) = true := by simp [Region.wanted, hgd]
  rw [if_pos hw]
  obtain ⟨i9, hi9, hz9, hs9, hb9⟩ := info_parts info9
  rcases hu.2 with ⟨rfl, hn⟩ | ⟨g, cap, cur, rfl, _, _, _, _, _, _⟩
  · obtain rfl : p = [] := List.eq_nil_of_length_eq_zero hn
    have hrun := run_append_owned_none (P := Tryd.prog) (w := w) base 35 o.type 9 i9 1 Tryd.underlying35 hi9 v 0 [] hown
    unfold Oper.wp
    simp only [execOp, ho, resolve, invoke, builtin, Sem.run_bind, Sem.run_pure, Result.andThen_ok, List.map_toArray, List.map_cons, List.map_nil, hs, hx, hrun]
    exact h v w hown (Fr.refl _ _)
  · have hnews : ∀ j y, (p.map Value.string)[j]? = some y → w.cell? ((⟨g, 0, none⟩ : Addr).add j) = some y := hu.cells rfl
    obtain ⟨v', w', hr, h2, h3, _⟩ := run_append_own (P := Tryd.prog) w base 35 o.type 9 i9 (.string { data := #[] }) 1 16 Tryd.underlying35 hi9 hz9 hs9 hb9 rfl (by decide) v 0 [] hown ⟨g, 0, none⟩ p.length cap (p.map Value.string) (by simp) hnews
      (fun y hy => by obtain ⟨b, _, rfl⟩ := List.mem_map.1 hy; rfl) (by unfold maxLen; omega) (by omega) hb
    rw [Nat.zero_add, List.nil_append] at h2
    unfold Oper.wp
    simp only [execOp, ho, resolve, invoke, builtin, Sem.run_bind, Sem.run_pure, Result.andThen_ok, List.map_toArray, List.map_cons, List.map_nil, hs, hx, hr]
    exact h v' w' h2 (Fr.of_grown h3)

theorem step_txt {ops : Array Oper} {o : Oper} {a : Act} {wc w : World} {K : Act → World → Prop} {Q : Exit → Act → World → Prop} {E : Prop} (hgd : o.guard = none) (s x : Operand) (ho : o.op = .call { callee := .builtin .append, args := #[s, x], argTypes := #[35, 35] })
    (base0 : Nat) (v u : Value) (p : List ByteArray) (hs : a.eval s = v) (hk : Fr [] wc w ∧ w.ownsRow wc.heap.size 9 1 v 0 []) (hx : a.eval x = u) (hu : TextsIs wc base0 u p) (hlen : p.length ≤ 100000)
    (h : ∀ v' w', w'.ownsRow wc.heap.size 9 1 v' p.length (p.map Value.string) → Fr [] wc w' → (∀ g l, Blk w g 9 l → v.ownBlock ≠ some g → Blk w' g 9 l) → K (a.put o.dst v') w') : if Region.wanted o (yielded ops a.tmps) = true then Oper.wp Tryd.prog o a w K Q else E :=
  step_append_txt hgd s x ho wc.heap.size base0 v u p hs hk.2 hx (own_fr0 hu hk.1) hlen hk.1.size (fun v' w' h1 h2 => h v' w' h1 (hk.1.own hk.2 (Nat.le_refl _) h2) (fun g l hb hn => hb.fr h2 (by simpa using hn)))

set_option maxRecDepth 100000 in
set_option maxHeartbeats 4000000 in
theorem order1_any (O : OEnv) (hN : O.N ≤ 20) (hcap : O.N ≤ O.lcap ∧ O.lcap ≤ 9223372036854775807) (t : NT) : ∀ (x : Int) (v : Value) (p : List ByteArray) (w : World) (os : List Nat) (ps : List (List ByteArray)), t.Fits O.nd x → (∀ e, e ∈ t.order → e < O.N) → OSt O w os ps → TextsIs w O.base v p →
    os.length + t.order.length ≤ 1000 → p.length + t.order.length ≤ 1000 →
    Calls Tryd.prog 33 #[.int .i64 x, v, .pointer (some ⟨O.fb, 0, none⟩), .pointer (some ⟨O.lx, 0, none⟩), .pointer (some ⟨O.yb, 0, none⟩), .pointer (some ⟨O.zb, 0, none⟩)] w fun e w' => e = .returned (.tuple #[]) ∧ OSt O w' (os ++ t.order) (ps ++ t.pths O.nm p) ∧ TxtKeep O.base w w' := by
  induction t with
  | nil =>
    intro x v p w os ps hfit _ hst hv _ _
    obtain rfl : x = -1 := hfit
    have HST := Lib.hid hst
    clear hst hv
    go_enter Tryd.func33, Tryd.ntmps33
    go_wp2_with fail
    exact bodyPost_ret (v := .tuple #[]) (by simp [results, Tryd.results33, go_sem]) rfl ⟨rfl, by simpa [NT.order, NT.pths] using HST.out, TxtKeep.refl _ _⟩
  | node e l c r ihl ihc ihr =>
    intro x v p w os ps hfit hlt hst hv hos hps
    obtain ⟨rfl, hfl, hfc, hfr⟩ := hfit
    have he : e < O.N := hlt e (by simp [NT.order])
    simp only [NT.order, List.length_append, List.length_cons] at hos hps
    obtain ⟨va, vc, rfl⟩ := own_slice hv
    have c0 : w.cell? ⟨O.fb, 0, none⟩ = some (.func (.func 33) #[] O.caps) := hst.rec_.cell 0
    have b0 : w.cell? ⟨O.lx, 0, none⟩ = some (.slice (some ⟨O.lb, 0, none⟩) O.N O.lcap) := hst.box.cell 0
    have n3 : w.cell? ⟨O.lb, e * 28 + 3, none⟩ = some (.int .i64 (O.nd e).left) := (hst.row.cell he (by omega)).trans rfl
    have heI : (e : Int) < (O.N : Int) := by omega
    have he0 : ¬ (e : Int) < 0 := by omega
    have ihl' := ihl (O.nd e).left _ p w.drew os ps hfl (fun y hy => hlt y (by simp [NT.order, hy])) ⟨hst.rec_, hst.box, hst.row, hst.fr.drew, hst.yb, hst.zb, hst.pl, hst.pa⟩ hv (by omega) (by omega)
    have HIL := Lib.hid ihl'
    have HV := Lib.hid hv
    have HST := Lib.hid hst
    have HLT := Lib.hid hlt
    have HFC := Lib.hid hfc
    have HFR := Lib.hid hfr
    have HIC := Lib.hid ihc
    have HIR := Lib.hid ihr
    clear ihl ihl' ihc ihr hv hst hlt hfl hfc hfr
    go_enter Tryd.func33, Tryd.ntmps33
    go_upto_region 1 with (fail)
    go_cut [] from 11 to 18 (fun w1 => OSt O w1 (os ++ l.order) (ps ++ l.pths O.nm p) ∧ TxtKeep O.base w w1)
    case first =>
      go_still_tail 7, (by kernel_rfl)
      change wpList _ _ _ _ _ w.drew
      go_wp2_with fail
      refine HIL.out.mono ?_
      rintro e1 w3 ⟨rfl, hs3, hk3⟩
      have H := Lib.hid (And.intro hs3 hk3)
      clear hs3 hk3
      go_wp2_with fail
      go_meet
      case rel => exact H.out
    case rest =>
    clear c0 b0 n3
    obtain ⟨hst, hk1⟩ := hcut
    have hv := hk1 _ _ HV.out
    obtain ⟨v3, hy, hyo⟩ := hst.pl
    obtain ⟨v35, vs, hz, hzo, hpa⟩ := hst.pa
    obtain ⟨a3, c3, rfl⟩ := own_slice hyo
    obtain ⟨a35, c35, rfl⟩ := own_slice hzo
    have hlen1 : (os ++ l.order).length ≤ 1000 := by rw [List.length_append]; omega
    generalize hos1 : os ++ l.order = os1 at *
    generalize hps1 : ps ++ l.pths O.nm p = ps1 at *
    have HOS1 := Lib.hid hos1
    have HPS1 := Lib.hid hps1
    clear hos1 hps1
    go_upto_region 2 with (fail)
    go_cut [] from 19 to 26 (fun w1 => OSt O w1 (os1 ++ [e]) (ps1 ++ [p]) ∧ TxtKeep O.base wc w1)
    case first =>
      obtain ⟨R, hR⟩ : ∃ R : RE, R = ⟨O, wc, .slice a3 os1.length c3, .slice a35 os1.length c35, .slice va p.length vc, e, os1.length, os1.map (fun e => I64 e), vs⟩ := ⟨_, rfl⟩
      have r1 : R.O = O := by rw [hR]
      refine wp_region_loose (J := R.J) (Sp := R.Sp) (by kernel_rfl) (by kernel_rfl) ?_ ?_ ?_
      · subst hR
        exact ⟨(Fr.refl _ _).drew, fun _ => hy, fun _ => hz, fun _ => hyo, fun _ => hzo, fun h => (by cases h), fun h => (by cases h)⟩
      · intro L a w1 i o hI hi hL hw
        have hj := hI.j
        have hbase : R.O.base ≤ w1.heap.size := Nat.le_trans (by rw [hR]; exact hst.fr.size) hj.fr.size
        have hnl : R.n ≤ 1000 := by rw [hR]; exact hlen1
        have same : ∀ i, i ≠ 3 ∧ i ≠ 7 ∧ i ≠ 8 ∧ i ≠ 9 → R.J (lSet L i) w1 := fun i hi => hj.alloc (Fr.refl _ _) i hi
        have nop : ∀ j u, L j = true → R.Sp j w1 u → R.Sp j w1 u := fun _ _ _ h => h
        rcases i with _ | _ | _ | _ | _ | _ | _ | _ | _ | _ | i
        · obtain rfl := Option.some.inj hi
          have h8 : L 8 = false := hI.before (j := 8) hL rfl (by kernel_rfl)
          have e4 := hI.outer 4 (by kernel_rfl) (.pointer (some ⟨O.yb, 0, none⟩)) rfl
          have hc : w1.cell? ⟨O.yb, 0, none⟩ = some R.v3 := by have := (hj.y0 h8).cell 0; rw [r1] at this; exact this
          rw [Array.getD_eq_getD_getElem?] at e4
          exact lw R.v3 (by simp [go_sem, e4, hc]) ⟨_, rfl, same 0 (by decide), nop, rfl⟩
        · obtain rfl := Option.some.inj hi
          have e0 := hI.outer 0 (by kernel_rfl) (.int .i64 e) rfl
          exact ow_move (.tmp 0) rfl (I64 R.e) (by rw [hR]; exact e0) ⟨_, rfl, same 1 (by decide), nop, rfl⟩
        · obtain rfl := Option.some.inj hi
          have l1 := waits_of hw 1 (by kernel_rfl)
          have v1 : a.tmps.getD 20 undef = I64 R.e := hI.val 1 _ 20 l1 rfl rfl
          have f := (Fr.refl [] w1).alloc (.cells #[I64 R.e] 3)
          exact ow_build1 trivial 31 3 (.tmp 20) rfl (I64 R.e) v1 rfl Tryd.underlying31 (by kernel_rfl) ⟨_, rfl, hj.alloc f 2 (by decide), fun j u _ => RE.Sp_alloc f j u, w1.heap.size, rfl, Blk.new' _ _ _, hj.fr.size⟩
        · obtain rfl := Option.some.inj hi
          have l0 := waits_of hw 0 (by kernel_rfl)
          have l2 := waits_of hw 2 (by kernel_rfl)
          have h8 : L 8 = false := hI.before (j := 8) hL rfl (by kernel_rfl)
          have h7 : L 7 = false := hI.before (j := 7) hL rfl (by kernel_rfl)
          have h9 : L 9 = false := hI.before (j := 9) h7 rfl (by kernel_rfl)
          have v0 : a.tmps.getD 19 undef = R.v3 := hI.val 0 _ 19 l0 rfl rfl
          obtain ⟨g, v2, hg, hge⟩ : ∃ g, a.tmps.getD 21 undef = .slice (some ⟨g, 0, none⟩) 1 1 ∧ Blk w1 g 3 [I64 R.e] ∧ R.wc.heap.size ≤ g := hI.val 2 _ 21 l2 rfl rfl
          obtain ⟨i3, hi3, hz3, hs3, hb3⟩ := info_parts info3
          have hw3 : R.wc.ownsRow R.O.base 3 1 R.v3 R.n R.pls := by rw [hR]; exact hyo
          refine ow_app (.tmp 19) (.tmp 21) 31 rfl 3 i3 (.int .i64 0) 1 8 Tryd.underlying31 hi3 hz3 hs3 hb3 rfl (by decide) R.O.base R.v3 R.n R.pls v0 (hj.p0 hL) ⟨g, 0, none⟩ 1 1 [I64 R.e] v2 rfl (fun j u hju => by rw [add_zero']; exact (hg.cell j).trans hju) (by simp [Value.oneCell']) (by unfold maxLen; omega) (by omega) ?_ ?_
          · exact hbase
          · intro v' w' ho hf
            obtain ⟨hJ, hS⟩ := hj.app3 hL h8 h9 hw3 hf
            exact ⟨_, rfl, hJ, hS, ho⟩
        · obtain rfl := Option.some.inj hi
          have h9 : L 9 = false := hI.before (j := 9) hL rfl (by kernel_rfl)
          have e5 := hI.outer 5 (by kernel_rfl) (.pointer (some ⟨O.zb, 0, none⟩)) rfl
          have hc : w1.cell? ⟨O.zb, 0, none⟩ = some R.v35 := by have := (hj.z0 h9).cell 0; rw [r1] at this; exact this
          rw [Array.getD_eq_getD_getElem?] at e5
          exact lw R.v35 (by simp [go_sem, e5, hc]) ⟨_, rfl, same 4 (by decide), nop, rfl⟩
        · obtain rfl := Option.some.inj hi
          have e1 := hI.outer 1 (by kernel_rfl) R.pv (by rw [hR]; rfl)
          exact ow_move (.tmp 1) rfl R.pv e1 ⟨_, rfl, same 5 (by decide), nop, rfl⟩
        · obtain rfl := Option.some.inj hi
          have l5 := waits_of hw 5 (by kernel_rfl)
          have v5 : a.tmps.getD 24 undef = R.pv := hI.val 5 _ 24 l5 rfl rfl
          have f := (Fr.refl [] w1).alloc (.cells #[R.pv] 35)
          exact ow_build1 trivial 32 35 (.tmp 24) rfl R.pv v5 (by rw [hR]; rfl) Tryd.underlying32 (by kernel_rfl) ⟨_, rfl, hj.alloc f 6 (by decide), fun j u _ => RE.Sp_alloc f j u, w1.heap.size, rfl, Blk.new' _ _ _, hj.fr.size⟩
        · obtain rfl := Option.some.inj hi
          have l4 := waits_of hw 4 (by kernel_rfl)
          have l6 := waits_of hw 6 (by kernel_rfl)
          have l3 := waits_of hw 3 (by kernel_rfl)
          have h8 : L 8 = false := hI.before (j := 8) hL rfl (by kernel_rfl)
          have h9 : L 9 = false := hI.before (j := 9) hL rfl (by kernel_rfl)
          have v4 : a.tmps.getD 23 undef = R.v35 := hI.val 4 _ 23 l4 rfl rfl
          obtain ⟨g, v6, hg, hge⟩ : ∃ g, a.tmps.getD 25 undef = .slice (some ⟨g, 0, none⟩) 1 1 ∧ Blk w1 g 35 [R.pv] ∧ R.wc.heap.size ≤ g := hI.val 6 _ 25 l6 rfl rfl
          obtain ⟨i35, hi35, hz35, hs35, hb35⟩ := info_parts info35
          have hw35 : R.wc.ownsRow R.O.base 35 1 R.v35 R.n R.vs := by rw [hR]; exact hzo
          have hone : R.pv.oneCell' = true := by rw [hR]; rfl
          refine ow_app (.tmp 23) (.tmp 25) 32 rfl 35 i35 (.slice none 0 0) 1 24 Tryd.underlying32 hi35 hz35 hs35 hb35 rfl (by decide) R.O.base R.v35 R.n R.vs v4 (hj.q0 hL) ⟨g, 0, none⟩ 1 1 [R.pv] v6 rfl (fun j u hju => by rw [add_zero']; exact (hg.cell j).trans hju) (by simpa using hone) (by unfold maxLen; omega) (by omega) hbase ?_
          intro v' w' ho hf
          obtain ⟨hJ, hS⟩ := hj.app7 hL h8 h9 l3 hw35 hf
          exact ⟨_, rfl, hJ, hS, ho⟩
        · obtain rfl := Option.some.inj hi
          have l3 := waits_of hw 3 (by kernel_rfl)
          have l7 := waits_of hw 7 (by kernel_rfl)
          have h9 : L 9 = false := hI.before (j := 9) hL rfl (by kernel_rfl)
          have e4 := hI.outer 4 (by kernel_rfl) (.pointer (some ⟨O.yb, 0, none⟩)) rfl
          have v3' : R.Sp 3 w1 (a.tmps.getD 22 undef) := hI.val 3 _ 22 l3 rfl rfl
          have v3o : w1.ownsRow R.O.base 3 1 (a.tmps.getD 22 undef) (R.n + 1) (R.pls ++ [I64 R.e]) := v3'
          obtain ⟨sa, sc, hsl⟩ := own_slice v3o
          obtain ⟨hJ, hS⟩ := hj.st8 hL h9 l3 l7 _ v3o
          rw [hsl] at hJ hS
          exact ow_store 31 (.tmp 4) (.tmp 22) rfl R.O.yb _ (by rw [r1]; exact e4) hsl rfl rfl 31 R.v3 (hj.y0 hL) (by kernel_rfl) ⟨_, rfl, hJ, hS, trivial⟩
        · obtain rfl := Option.some.inj hi
          have l7 := waits_of hw 7 (by kernel_rfl)
          have l8 := waits_of hw 8 (by kernel_rfl)
          have l3 := waits_of hw 3 (by kernel_rfl)
          have e5 := hI.outer 5 (by kernel_rfl) (.pointer (some ⟨O.zb, 0, none⟩)) rfl
          have v7' : R.Sp 7 w1 (a.tmps.getD 26 undef) := hI.val 7 _ 26 l7 rfl rfl
          have v7o : w1.ownsRow R.O.base 35 1 (a.tmps.getD 26 undef) (R.n + 1) (R.vs ++ [R.pv]) := v7'
          obtain ⟨sa, sc, hsl⟩ := own_slice v7o
          obtain ⟨hJ, hS⟩ := hj.st9 hL l8 l3 l7 _ v7o
          rw [hsl] at hJ hS
          exact ow_store 32 (.tmp 5) (.tmp 26) rfl R.O.zb _ (by rw [r1]; exact e5) hsl rfl rfl 32 R.v35 (hj.z0 hL) (by kernel_rfl) ⟨_, rfl, hJ, hS, trivial⟩
        · cases hi
      · intro L a w1 hI hall
        have hdone := RE.done hI.j (hall 8 (by decide)) (hall 9 (by decide)) (os := os1) (ps := ps1) (p := p) (by rw [hR]; exact hst) (by rw [hR]) (by rw [hR]) (by rw [hR]; exact hy) (by rw [hR]; exact hyo) (by rw [hR]; exact hz) (by rw [hR]; exact hzo) (by rw [hR]; exact hpa) (by rw [hR]; exact hv)
        have hlit := hI.lit [19, 20, 21, 22, 23, 24, 25, 26] (by kernel_rfl)
        rw [hR] at hdone
        have HD := Lib.hid hdone
        clear hdone
        rw [hlit]
        simp only [List.foldl, List.setIfInBounds_toArray, List.set_cons_succ, List.set_cons_zero]
        rename (∀ (a : Act) (w : World), Met _ a w → _) => hK
        refine hK _ _ ?_
        go_meet
        case rel => exact HD.out
    case rest =>
    obtain ⟨hst2, hk2⟩ := hcut
    have hv2 := hk2 _ _ hv
    have hkA : TxtKeep O.base w wc := hk1.trans hk2
    clear hy hyo hz hzo hpa hst hv hk1 hk2
    go_upto_if 29 with (fail)
    go_cut [8] from 28 to 39 (fun s8 w1 => OSt O w1 (os1 ++ [e]) (ps1 ++ [p]) ∧ TxtKeep O.base wc w1 ∧ TextsIs w1 O.base s8 (if e = 0 then p else p ++ [O.nm e]))
    case first =>
      have HST2 := Lib.hid hst2
      have HV2 := Lib.hid hv2
      by_cases h0 : e = 0
      · have hpI : ¬ (0 : Int) < (e : Int) := by omega
        clear hst2 hv2
        have H0 := Lib.hid h0
        clear h0
        go_wp2_with fail
        go_meet
        case rel => exact ⟨HST2.out, TxtKeep.refl _ _, by rw [if_pos H0.out]; exact HV2.out⟩
      · have hpI : (0 : Int) < (e : Int) := by omega
        have q0 : wc.cell? ⟨O.lx, 0, none⟩ = some (.slice (some ⟨O.lb, 0, none⟩) O.N O.lcap) := hst2.box.cell 0
        have q1 : wc.cell? ⟨O.lb, e * 28, none⟩ = some (.string (O.nm e)) := (hst2.row.cell (j := 0) he (by omega)).trans rfl
        have hplen2 : p.length ≤ 100000 := by omega
        clear hst2 hv2
        have hfc : Fr [] wc wc.drew := (Fr.refl _ _).drew
        go_upto_region 5 with (fail)
        have hsz : wc.heap.size ≤ wc.drew.heap.size := Nat.le_refl _
        have KA : Fr [] wc (wc.alloc (.cells #[] 9)).drew ∧ (wc.alloc (.cells #[] 9)).drew.ownsRow wc.heap.size 9 1 (.slice (some ⟨wc.heap.size, 0, none⟩) 0 0) 0 [] := ⟨((Fr.refl [] wc).alloc _).drew, own_fr0 (own_lit0 wc 9 _ (Nat.le_refl _)) (Fr.refl [] _).drew⟩
        have KB : Fr [] wc ((wc.alloc (.cells #[] 9)).alloc (.cells #[.string (O.nm e)] 9)).drew ∧ (((wc.alloc (.cells #[] 9)).alloc (.cells #[.string (O.nm e)] 9)).drew).ownsRow wc.heap.size 9 1 (.slice (some ⟨wc.heap.size, 0, none⟩) 0 0) 0 [] :=
          ⟨(((Fr.refl [] wc).alloc _).alloc _).drew, own_fr0 (own_lit0 wc 9 _ (Nat.le_refl _)) ((Fr.refl [] _).alloc _).drew⟩
        have KC : Fr [] wc ((wc.alloc (.cells #[.string (O.nm e)] 9)).alloc (.cells #[] 9)).drew ∧ (((wc.alloc (.cells #[.string (O.nm e)] 9)).alloc (.cells #[] 9)).drew).ownsRow wc.heap.size 9 1 (.slice (some ⟨wc.heap.size + 1, 0, none⟩) 0 0) 0 [] :=
          ⟨(((Fr.refl [] wc).alloc _).alloc _).drew, own_fr0 (by have := own_lit0 (wc.alloc (.cells #[.string (O.nm e)] 9)) 9 wc.heap.size (by rw [World.size_alloc]; exact Nat.le_succ _); rw [World.size_alloc] at this; exact this) (Fr.refl [] _).drew⟩
        have BB : Blk (((wc.alloc (.cells #[] 9)).alloc (.cells #[.string (O.nm e)] 9)).drew) (wc.heap.size + 1) 9 [.string (O.nm e)] := by have := Blk.new' (wc.alloc (.cells #[] 9)) 9 #[.string (O.nm e)]; rw [World.size_alloc] at this; exact this
        have BC : Blk (((wc.alloc (.cells #[.string (O.nm e)] 9)).alloc (.cells #[] 9)).drew) wc.heap.size 9 [.string (O.nm e)] := ((Blk.new' wc 9 #[.string (O.nm e)]).alloc _).drew
        have HKA := Lib.hid KA
        have HKB := Lib.hid KB
        have HKC := Lib.hid KC
        have HBB := Lib.hid BB
        have HBC := Lib.hid BC
        obtain ⟨i9, hi9, hz9, hs9, hb9⟩ := info_parts info9
        have HI9 := Lib.hid (And.intro hi9 (And.intro hz9 (And.intro hs9 hb9)))
        clear KA KB KC BB BC hi9 hz9 hs9 hb9 hsz
        go_region_held3 (fun w' => w'.cell? ⟨O.lx, 0, none⟩ = some (.slice (some ⟨O.lb, 0, none⟩) O.N O.lcap) ∧ w'.cell? ⟨O.lb, e * 28, none⟩ = some (.string (O.nm e)))
          (first | exact ⟨hfc.cell0 q0, hfc.cell0 q1⟩ | exact ⟨(hfc.alloc _).cell0 q0, (hfc.alloc _).cell0 q1⟩ | exact ⟨((hfc.alloc _).alloc _).cell0 q0, ((hfc.alloc _).alloc _).cell0 q1⟩)
          (first
            | (refine step_append_own rfl (.tmp 32) (.tmp 38) 35 rfl wc.heap.size 9 i9 (.string { data := #[] }) 1 16 Tryd.underlying35 HI9.out.1 HI9.out.2.1 HI9.out.2.2.1 HI9.out.2.2.2 rfl (by decide) v32 p.length (p.map Value.string) rfl ?_ ⟨_, 0, none⟩ 1 1 [.string (O.nm e)] rfl rfl ?_ ?_ ?_ ?_ ?_ ?_
               · first | with_reducible exact HR32.out | with_reducible exact HRA.out
               · first | (intro j u hj; rw [add_zero']; exact (hB38.out.cell j).trans hj) | exact news_new _ _ _ rfl
               · intro u hu; obtain rfl := List.mem_singleton.1 hu; rfl
               · unfold maxLen; omega
               · omega
               · first | exact hfc.size | exact (hfc.alloc _).size
               rintro v39 w4 hr39 hg39
               have hfc4 : Fr [] wc w4 := by first | exact hfc.own HR32.out (Nat.le_refl _) (Fr.of_grown hg39) | exact (hfc.alloc _).own HRA.out (Nat.le_refl _) (Fr.of_grown hg39)
               have HR39 := Lib.hid hr39
               clear hfc hr39 hg39
               have hfc := hfc4
               clear hfc4)
            | (refine step_txt (wc := wc) rfl (.tmp 30) (.tmp 31) rfl O.base (.slice (some ⟨wc.heap.size, 0, none⟩) 0 0) _ p rfl (by with_reducible exact HKA.out) rfl HV2.out hplen2 ?_
               rintro v32 w3 hr32 hfc3 hkeep
               have HRA := Lib.hid (own_fr0 hr32 ((Fr.refl [] w3).alloc (.cells #[.string (O.nm e)] 9)))
               have HR32 := Lib.hid hr32
               clear hfc hkeep hr32
               have hfc := hfc3
               clear hfc3)
            | (refine step_txt (wc := wc) rfl (.tmp 30) (.tmp 31) rfl O.base (.slice (some ⟨wc.heap.size, 0, none⟩) 0 0) _ p rfl (by with_reducible exact HKB.out) rfl HV2.out hplen2 ?_
               rintro v32 w3 hr32 hfc3 hkeep
               have hB38 := Lib.hid (hkeep (wc.heap.size + 1) [.string (O.nm e)] HBB.out (by simp [Value.ownBlock]))
               have HRA := Lib.hid (own_fr0 hr32 ((Fr.refl [] w3).alloc (.cells #[.string (O.nm e)] 9)))
               have HR32 := Lib.hid hr32
               clear hfc hkeep hr32
               have hfc := hfc3
               clear hfc3)
            | (refine step_txt (wc := wc) rfl (.tmp 30) (.tmp 31) rfl O.base (.slice (some ⟨wc.heap.size + 1, 0, none⟩) 0 0) _ p rfl (by with_reducible exact HKC.out) rfl HV2.out hplen2 ?_
               rintro v32 w3 hr32 hfc3 hkeep
               have hB38 := Lib.hid (hkeep wc.heap.size [.string (O.nm e)] HBC.out (by simp [Value.ownBlock]))
               have HRA := Lib.hid (own_fr0 hr32 ((Fr.refl [] w3).alloc (.cells #[.string (O.nm e)] 9)))
               have HR32 := Lib.hid hr32
               clear hfc hkeep hr32
               have hfc := hfc3
               clear hfc3))
        all_goals
          have hres : TextsIs w4 O.base v39 (p ++ [O.nm e]) := by
            have := own_mono HR39.out (show O.base ≤ wc.heap.size from HST2.out.fr.size)
            simpa [TextsIs] using this
          have hst4 : OSt O w4 (os1 ++ [e]) (ps1 ++ [p]) := HST2.out.fr0 hfc
          have hkp : TxtKeep O.base wc w4 := TxtKeep.of_fr hfc (fun _ _ _ => by simp)
          obtain ⟨ra, rc, rfl⟩ := own_slice hres
          have HF := Lib.hid (And.intro hst4 (And.intro hkp hres))
          clear hres hst4 hkp
          go_wp2_with fail
          go_meet
          case rel => exact ⟨HF.out.1, HF.out.2.1, by rw [if_neg h0]; have h := HF.out.2.2; rw [List.length_append, List.length_singleton] at h; exact h⟩
    case rest =>
    obtain ⟨hst3, hk3, hv3⟩ := hcut
    have hp3 := hk3 _ _ hv2
    have hkB : TxtKeep O.base w wc := hkA.trans hk3
    clear hst2 hv2 hkA hk3
    obtain ⟨ba, bc, rfl⟩ := own_slice hv3
    have hbl : (if e = 0 then p else p ++ [O.nm e]).length ≤ p.length + 1 := by split <;> simp
    generalize hpc : (if e = 0 then p else p ++ [O.nm e]) = pc at *
    have HPC := Lib.hid hpc
    clear hpc
    have hfc := HFC.out
    have hlt := HLT.out
    have hos1l : os1.length = os.length + l.order.length := by rw [← HOS1.out, List.length_append]
    have c0 : wc.cell? ⟨O.fb, 0, none⟩ = some (.func (.func 33) #[] O.caps) := hst3.rec_.cell 0
    have b0 : wc.cell? ⟨O.lx, 0, none⟩ = some (.slice (some ⟨O.lb, 0, none⟩) O.N O.lcap) := hst3.box.cell 0
    have n5 : wc.cell? ⟨O.lb, e * 28 + 5, none⟩ = some (.int .i64 (O.nd e).child) := (hst3.row.cell he (by omega)).trans rfl
    have ihc' := HIC.out (O.nd e).child _ pc wc.drew (os1 ++ [e]) (ps1 ++ [p]) hfc (fun y hy => hlt y (by simp [NT.order, hy])) (hst3.fr0 (Fr.refl _ _).drew) hv3 (by simp; omega) (by omega)
    have HI := Lib.hid ihc'
    have HV3 := Lib.hid hp3
    have HKB := Lib.hid hkB
    have HOSL := Lib.hid hos1l
    clear ihc' hst3 hfc hlt hv3 hp3 hkB hos1l
    go_upto_region 6 with (fail)
    go_cut [] from 40 to 47 (fun w1 => OSt O w1 (os1 ++ [e] ++ c.order) (ps1 ++ [p] ++ c.pths O.nm pc) ∧ TxtKeep O.base wc w1)
    case first =>
      go_still_tail 7, (by kernel_rfl)
      change wpList _ _ _ _ _ wc.drew
      go_wp2_with fail
      refine HI.out.mono ?_
      rintro e1 w3 ⟨rfl, hs3, hk3⟩
      have H := Lib.hid (And.intro hs3 hk3)
      clear hs3 hk3
      go_wp2_with fail
      go_meet
      case rel => exact H.out
    case rest =>
    clear c0 b0 n5
    obtain ⟨hst4, hk4⟩ := hcut
    have hp4 := hk4 _ _ HV3.out
    have hk5 : TxtKeep O.base w wc := HKB.out.trans hk4
    have c0 : wc.cell? ⟨O.fb, 0, none⟩ = some (.func (.func 33) #[] O.caps) := hst4.rec_.cell 0
    have b0 : wc.cell? ⟨O.lx, 0, none⟩ = some (.slice (some ⟨O.lb, 0, none⟩) O.N O.lcap) := hst4.box.cell 0
    have n4 : wc.cell? ⟨O.lb, e * 28 + 4, none⟩ = some (.int .i64 (O.nd e).right) := (hst4.row.cell he (by omega)).trans rfl
    have hlen := HOSL.out
    have ihr' := HIR.out (O.nd e).right _ p wc.drew (os1 ++ [e] ++ c.order) (ps1 ++ [p] ++ c.pths O.nm pc) HFR.out (fun y hy => HLT.out y (by simp [NT.order, hy])) (hst4.fr0 (Fr.refl _ _).drew) hp4 (by simp; omega) (by omega)
    have e1 : os1 ++ [e] ++ c.order ++ r.order = os ++ (NT.node e l c r).order := by rw [← HOS1.out]; simp [NT.order]
    have e2 : ps1 ++ [p] ++ c.pths O.nm pc ++ r.pths O.nm p = ps ++ (NT.node e l c r).pths O.nm p := by rw [← HPS1.out, ← HPC.out]; simp [NT.pths]
    rw [e1, e2] at ihr'
    have HI2 := Lib.hid ihr'
    have HK5 := Lib.hid hk5
    clear ihr' hst4 hp4 hk5 hk4 hlen e1 e2
    go_upto_region 7 with (fail)
    go_still_tail 7, (by kernel_rfl)
    change wpList _ _ _ _ _ wc.drew
    go_wp2_with fail
    refine HI2.out.mono ?_
    rintro e1 w3 ⟨rfl, hs3, hk3⟩
    have H := Lib.hid (And.intro hs3 (HK5.out.trans (show TxtKeep O.base wc w3 from hk3)))
    clear hs3 hk3
    go_wp2_with fail
    go_end0
    exact ⟨rfl, H.out⟩
end Go.Proofs.YtokpomdfgbbhlaaDoor

/- The contract of spec.Order. -/
namespace Go.Proofs.YtokpomdfgbbhlaaDoor
open Go Go.RowKit

theorem run_store_func' (w : World) (a : Addr) (fn : Fn) (first cap : Array Value) (m : Mode) : (store a (.func fn first cap) m).run Tryd.prog w = stored Tryd.prog w a (.func fn first cap) m := run_store Tryd.prog w a _ m rfl
attribute [local go_sem] run_store_func'

set_option maxRecDepth 100000 in
set_option maxHeartbeats 1000000 in
theorem order_any (lb N lcap : Nat) (hN : N ≤ 20) (hcap : N ≤ lcap ∧ lcap ≤ 9223372036854775807) (nd : Nat → Nd) (dv : Nat → Value) (t : NT) (w : World) (hrow : NdRow w lb N nd dv) (hfit : t.Fits nd 0) (hlt : ∀ e, e ∈ t.order → e < N) (hlen : t.order.length ≤ 900) :
    Calls Tryd.prog 12 #[.slice (some ⟨lb, 0, none⟩) N lcap] w fun e w' => ∃ v1 v2 vs, e = .returned (.tuple #[v1, v2]) ∧ Fr [] w w' ∧ w'.ownsRow w.heap.size 3 1 v1 t.order.length (t.order.map (fun e => I64 e)) ∧ w'.ownsRow w.heap.size 35 1 v2 t.order.length vs ∧ PathsAre w' w.heap.size vs (t.pths (fun k => (nd k).name) []) := by
  have hmf : ∀ (fn : Fn) (first cap : Array Value) (w : World), (Instr.makeFunc fn first cap).run Tryd.prog w = .ok (.func fn first cap) w := fun _ _ _ _ => rfl
  go_enter Tryd.func12, Tryd.ntmps12
  go_upto_region 3 with (fail)
  generalize hn : w.heap.size = n at *
  replace hn := hn.symm
  generalize hq1 : w.alloc (Obj.cells #[Value.slice (some { block := lb, off := 0 }) N lcap] 25) = q1
  generalize hq2 : q1.alloc (Obj.cells #[] 3) = q2
  generalize hq3 : q2.alloc (Obj.cells #[] 35) = q3
  generalize hq4 : q3.alloc (Obj.cells #[Value.slice (some { block := n + 1, off := 0 }) 0 0] 31) = q4
  generalize hq5 : q4.alloc (Obj.cells #[Value.slice (some { block := n + 1 + 1, off := 0 }) 0 0] 32) = q5
  generalize hq6 : q5.alloc (Obj.cells #[Value.nilFunc] 102) = q6
  replace hq1 := hq1.symm
  replace hq2 := hq2.symm
  replace hq3 := hq3.symm
  replace hq4 := hq4.symm
  replace hq5 := hq5.symm
  replace hq6 := hq6.symm
  have z1 : q1.heap.size = n + 1 := by rw [hq1, hn]; simp
  have z2 : q2.heap.size = n + 1 + 1 := by rw [hq2]; simp [z1]
  have z3 : q3.heap.size = n + 1 + 1 + 1 := by rw [hq3]; simp [z2]
  have z4 : q4.heap.size = n + 1 + 1 + 1 + 1 := by rw [hq4]; simp [z3]
  have z5 : q5.heap.size = n + 1 + 1 + 1 + 1 + 1 := by rw [hq5]; simp [z4]
  have z6 : q6.heap.size = n + 1 + 1 + 1 + 1 + 1 + 1 := by rw [hq6]; simp [z5]
  have e1 : Fr [] w q1 := by rw [hq1]; exact (Fr.refl _ _).alloc _
  have e2 : Fr [] q1 q2 := by rw [hq2]; exact (Fr.refl _ _).alloc _
  have e3 : Fr [] q2 q3 := by rw [hq3]; exact (Fr.refl _ _).alloc _
  have e4 : Fr [] q3 q4 := by rw [hq4]; exact (Fr.refl _ _).alloc _
  have e5 : Fr [] q4 q5 := by rw [hq5]; exact (Fr.refl _ _).alloc _
  have e6 : Fr [] q5 q6 := by rw [hq6]; exact (Fr.refl _ _).alloc _
  have b1 : Blk q1 n 25 [Value.slice (some { block := lb, off := 0 }) N lcap] := by rw [hq1, hn]; exact Blk.new' _ _ _
  have o2 : q2.ownsRow n 3 1 (.slice (some ⟨n + 1, 0, none⟩) 0 0) 0 [] := by rw [hq2, ← z1]; exact own_lit0 q1 3 n (by omega)
  have o3 : q3.ownsRow n 35 1 (.slice (some ⟨n + 1 + 1, 0, none⟩) 0 0) 0 [] := by rw [hq3, ← z2]; exact own_lit0 q2 35 n (by omega)
  have b4 : Blk q4 (n + 1 + 1 + 1) 31 [Value.slice (some { block := n + 1, off := 0 }) 0 0] := by rw [hq4, ← z3]; exact Blk.new' _ _ _
  have b5 : Blk q5 (n + 1 + 1 + 1 + 1) 32 [Value.slice (some { block := n + 1 + 1, off := 0 }) 0 0] := by rw [hq5, ← z4]; exact Blk.new' _ _ _
  have b6 : Blk q6 (n + 1 + 1 + 1 + 1 + 1) 102 [Value.nilFunc] := by rw [hq6, ← z5]; exact Blk.new' _ _ _
  have B1 := (((((b1.fr0 e2).fr0 e3).fr0 e4).fr0 e5).fr0 e6)
  have O2 := own_fr0 (own_fr0 (own_fr0 (own_fr0 o2 e3) e4) e5) e6
  have O3 := own_fr0 (own_fr0 (own_fr0 o3 e4) e5) e6
  have B4 := (b4.fr0 e5).fr0 e6
  have B5 := b5.fr0 e6
  have F6 := ((((e1.trans0 e2).trans0 e3).trans0 e4).trans0 e5).trans0 e6
  clear hq1 hq2 hq3 hq4 hq5 hq6 e1 e2 e3 e4 e5 e6 b1 o2 o3 b4 b5 z1 z2 z3 z4 z5
  have c0 : q6.cell? ⟨n + 1 + 1 + 1 + 1 + 1, 0, none⟩ = some .nilFunc := b6.cell 0
  have cz := b6.frozen 0
  have HN := Lib.hid hn
  have Z6 := Lib.hid z6
  clear hn z6
  go_upto_region 4 with (fail)
  have hn := HN.out
  have z6 := Z6.out
  obtain ⟨O, hO⟩ : ∃ O : OEnv, O = { fb := n + 1 + 1 + 1 + 1 + 1, lx := n, yb := n + 1 + 1 + 1, zb := n + 1 + 1 + 1 + 1, lb := lb, N := N, lcap := lcap, nd := nd, dv := dv, w0 := w } := ⟨_, rfl⟩
  obtain ⟨fv, hfv⟩ : ∃ v, v = Value.func (.func 33) #[] #[.pointer (some ⟨n + 1 + 1 + 1 + 1 + 1, 0, none⟩), .pointer (some ⟨n, 0, none⟩), .pointer (some ⟨n + 1 + 1 + 1, 0, none⟩), .pointer (some ⟨n + 1 + 1 + 1 + 1, 0, none⟩)] := ⟨_, rfl⟩
  have hlbn : lb < n := by obtain ⟨l, hl, _⟩ := hrow; rw [hn]; exact hl.lt
  have F7 : Fr [n + 1 + 1 + 1 + 1 + 1] q6 (q6.setCell ⟨n + 1 + 1 + 1 + 1 + 1, 0, none⟩ fv) := (Fr.refl _ _).setCell (.inl (by simp)) _
  have hst : OSt O (q6.setCell ⟨n + 1 + 1 + 1 + 1 + 1, 0, none⟩ fv) [] [] := by
    subst hO
    exact {
      rec_ := by have := b6.set 0 fv; rw [hfv] at this ⊢; exact this
      box := B1.fr F7 (by simp; omega)
      row := (hrow.fr F6 (by simp)).fr F7 (by simp; omega)
      fr := F6.trans F7 (fun x hx => .inr (by simp at hx; omega))
      yb := by show w.heap.size ≤ n + 1 + 1 + 1; omega
      zb := by show w.heap.size ≤ n + 1 + 1 + 1 + 1; omega
      pl := ⟨_, B4.fr F7 (by simp), by
        show World.ownsRow _ w.heap.size _ _ _ _ _
        rw [← hn]
        exact own_fr O2 F7 (by simp [Value.ownBlock])⟩
      pa := ⟨_, [], B5.fr F7 (by simp), by
        show World.ownsRow _ w.heap.size _ _ _ _ _
        rw [← hn]
        exact own_fr O3 F7 (by simp [Value.ownBlock]), rfl, fun i hi => by simp at hi⟩ }
  clear B1 O2 O3 B4 B5 F6 F7 b6 c0 cz
  rw [hfv] at hst
  clear hfv
  generalize q6.setCell ⟨n + 1 + 1 + 1 + 1 + 1, 0, none⟩ (.func (.func 33) #[] #[.pointer (some ⟨n + 1 + 1 + 1 + 1 + 1, 0, none⟩), .pointer (some ⟨n, 0, none⟩), .pointer (some ⟨n + 1 + 1 + 1, 0, none⟩), .pointer (some ⟨n + 1 + 1 + 1 + 1, 0, none⟩)]) = w4 at *
  have c0 : w4.cell? ⟨n + 1 + 1 + 1 + 1 + 1, 0, none⟩ = some (.func (.func 33) #[] #[.pointer (some ⟨n + 1 + 1 + 1 + 1 + 1, 0, none⟩), .pointer (some ⟨n, 0, none⟩), .pointer (some ⟨n + 1 + 1 + 1, 0, none⟩), .pointer (some ⟨n + 1 + 1 + 1 + 1, 0, none⟩)]) := by
    have := hst.rec_.cell 0
    subst hO
    exact this
  have hcon := Lib.hid (order1_any O (by subst hO; exact hN) (by subst hO; exact hcap) t 0 (.slice none 0 0) [] w4 [] [] (by subst hO; exact hfit) (by subst hO; exact hlt) hst ⟨rfl, .inl ⟨rfl, rfl⟩⟩ (by simp; omega) (by simp; omega))
  rw [hO] at hcon
  clear hn
  clear hst
  go_wp2_with fail
  refine hcon.out.mono ?_
  rintro e w6 ⟨rfl, hP, _⟩
  rw [List.nil_append, List.nil_append] at hP
  obtain ⟨v1, hv1, ho1⟩ := hP.pl
  obtain ⟨v2, vs, hv2, ho2, hpa⟩ := hP.pa
  have hfr := hP.fr
  have c1 : w6.cell? ⟨n + 1 + 1 + 1, 0, none⟩ = some v1 := hv1.cell 0
  have c2 : w6.cell? ⟨n + 1 + 1 + 1 + 1, 0, none⟩ = some v2 := hv2.cell 0
  have HPs := Lib.hid (And.intro hfr (And.intro ho1 (And.intro ho2 hpa)))
  clear hP hv1 hv2 ho1 ho2 hpa hfr
  go_upto_region 5 with (fail)
  go_quiet (fail)
  go_wp2_with fail
  obtain ⟨hfr, ho1, ho2, hpa⟩ := HPs.out
  exact bodyPost_ret (v := .tuple #[v1, v2]) (by simp [results, Tryd.results12, go_sem]) rfl ⟨_, _, vs, rfl, hfr.drewN _, own_fr0 ho1 ((Fr.refl _ _).drewN _), own_fr0 ho2 ((Fr.refl _ _).drewN _), hpa.1, fun i hi => own_fr0 (hpa.2 i hi) ((Fr.refl _ _).drewN _)⟩
end Go.Proofs.YtokpomdfgbbhlaaDoor

/- What entries of a written file are, whichever size its sectors have. -/
namespace Go.Proofs.YtokpomdfgbbhlaaDoor
open Go Go.RowKit Go.Maps

def kindN (x : Nd) (e : Nat) : Nat := if e = 0 then 5 else if x.stream = true then 2 else 1
/-- The cells of the entry of node e. -/
def eCells (x : Nd) (e : Nat) (pv : Value) : List Value :=
  [.string x.name, pv, .int .i64 (kindN x e : Nat), .int .i64 (if x.stream = true then (x.len : Int) else 0), .int .i64 ((x.name.data.toList.getD 0 0).toNat : Nat)] ++ (guidA x.cls).toList ++ (stateA x.sts).toList ++ [.int .u64 x.cr, .int .u64 x.md]
theorem eCells_length (x : Nd) (e : Nat) (pv : Value) : (eCells x e pv).length = 27 := by simp [eCells, guidA, stateA]
theorem eCells_one (x : Nd) (e : Nat) (a : Option Addr) (n c : Nat) : ∀ u ∈ eCells x e (.slice a n c), u.oneCell' = true := by
  intro u hu
  simp only [eCells, guidA, stateA, List.mem_append, List.mem_cons, List.not_mem_nil, or_false, tab, List.toList_toArray, List.mem_map] at hu
  rcases hu with ((h | ⟨i, _, rfl⟩) | ⟨i, _, rfl⟩) | h
  · rcases h with rfl | rfl | rfl | rfl | rfl <;> rfl
  · rfl
  · rfl
  · rcases h with rfl | rfl <;> rfl
theorem ent_eq {L : Lay} {F : Nat → UInt8} {fat mfat : Nat → Nat} {W : Nat → UInt8} (hW : Wrote L F fat mfat W) (hL : LayOK L) (hB : L.bytes ≤ 131072) (e : Nat) (he : e < L.N) (pv : Value) :
    entCells (L.EP e) pv (entB F L.sz (L.chn 0) e) = eCells (L.nd e) e pv := by
  have hE := Nat.lt_of_lt_of_le he (hW.N_le hL hB)
  have hf := hW.ent_flds hL hB e hE he
  have h1 : ((entB F L.sz (L.chn 0) e 66).toNat : Nat) = kindN (L.nd e) e := by
    rw [hf.kind]
    unfold Lay.kindOf kindN byteN
    split
    · rfl
    · split <;> rfl
  have h2 : (guidA fun j => entB F L.sz (L.chn 0) e (80 + j)) = guidA (L.nd e).cls := by
    unfold guidA
    congr 1
    exact tab_congr (fun i hi => congrArg U8 (hf.cls i hi))
  have h3 : (stateA fun j => entB F L.sz (L.chn 0) e (96 + j)) = stateA (L.nd e).sts := by
    unfold stateA
    congr 1
    exact tab_congr (fun i hi => congrArg U8 (hf.sts i hi))
  unfold entCells eCells Lay.EP
  rw [if_pos he, h1, h2, h3, hf.cr, hf.md]
  rfl

/-- The entries' cells. -/
def eRows (k : Nat) (o : Nat → Nat) (nd : Nat → Nd) (pth : Nat → Value) : List Value := (List.range k).flatMap (fun i => eCells (nd (o i)) (o i) (pth i))
theorem eRows_get (n : Nat) (o : Nat → Nat) (nd : Nat → Nd) (pth : Nat → Value) (k j : Nat) (hk : k < n) (hj : j < 27) : (eRows n o nd pth)[k * 27 + j]? = (eCells (nd (o k)) (o k) (pth k))[j]? := by
  induction n with
  | zero => omega
  | succ n ih =>
    have hl : ∀ m, (eRows m o nd pth).length = m * 27 := by
      intro m
      induction m with
      | zero => rfl
      | succ m ih2 =>
        have : eRows (m + 1) o nd pth = eRows m o nd pth ++ eCells (nd (o m)) (o m) (pth m) := by unfold eRows; rw [List.range_succ, List.flatMap_append]; simp
        rw [this, List.length_append, ih2, eCells_length]; omega
    have : eRows (n + 1) o nd pth = eRows n o nd pth ++ eCells (nd (o n)) (o n) (pth n) := by unfold eRows; rw [List.range_succ, List.flatMap_append]; simp
    rw [this]
    by_cases hkn : k < n
    · rw [List.getElem?_append_left (by rw [hl]; omega)]
      exact ih hkn
    · obtain rfl : k = n := by omega
      rw [List.getElem?_append_right (by rw [hl]; omega), hl]
      congr 1
      omega

/-- A slice of entries. -/
def EntsAre (w : World) (base : Nat) (v : Value) (n : Nat) (o : Nat → Nat) (nd : Nat → Nd) (ps : Nat → List ByteArray) : Prop :=
  ∃ (b cap : Nat) (pth : Nat → Value), v = .slice (some ⟨b, 0, none⟩) n cap ∧ n ≤ cap ∧ cap ≤ 9223372036854775807 ∧ (∀ k j u, k < n → j < 27 → (eCells (nd (o k)) (o k) (pth k))[j]? = some u → w.cell? ⟨b, k * 27 + j, none⟩ = some u) ∧ ∀ i, i < n → TextsIs w base (pth i) (ps i)
theorem EntsAre.fr {w w' : World} {base n : Nat} {v : Value} {o : Nat → Nat} {nd : Nat → Nd} {ps : Nat → List ByteArray} (h : EntsAre w base v n o nd ps) (f : Fr [] w w') : EntsAre w' base v n o nd ps := by
  obtain ⟨b, cap, pth, h1, h2, h3, h4, h5⟩ := h
  exact ⟨b, cap, pth, h1, h2, h3, fun k j u hk hj hu => f.cell0 (h4 k j u hk hj hu), fun i hi => own_fr0 (h5 i hi) f⟩
theorem EntsAre.of {w : World} {base n : Nat} {v : Value} {o : Nat → Nat} {nd : Nat → Nd} {ps : Nat → List ByteArray} {pth : Nat → Value} (hn : 1 ≤ n) (h : w.ownsRow base 40 27 v n (eRows n o nd pth)) (ht : ∀ i, i < n → TextsIs w base (pth i) (ps i)) : EntsAre w base v n o nd ps := by
  obtain ⟨b, cap, l, rfl, h1, h2, h3, h4, h5, _⟩ := own_blkS h hn
  refine ⟨b, cap, pth, rfl, h4, h5, fun k j u hk hj hu => ?_, ht⟩
  rw [h2.cell, h3 _ (by omega), eRows_get _ _ _ _ _ _ hk hj]
  exact hu

theorem NT.pths_congr {nm nm' : Nat → ByteArray} : ∀ (t : NT) (p : List ByteArray), (∀ e, e ∈ t.order → nm e = nm' e) → t.pths nm p = t.pths nm' p
  | .nil, _, _ => rfl
  | .node e l c r, p, h => by
    simp only [NT.pths]
    rw [NT.pths_congr l p (fun x hx => h x (by simp [NT.order, hx])), NT.pths_congr c _ (fun x hx => h x (by simp [NT.order, hx])), NT.pths_congr r p (fun x hx => h x (by simp [NT.order, hx])), h e (by simp [NT.order])]
/-- Entries of a written file. -/
theorem entries_wrote {base lb N : Nat} {w : World} {nd : Nat → Nd} {dv : Nat → Value} {t : NT} (h : NodesOK base lb N w nd dv t) (L : Lay) (hL : L.nd = nd ∧ L.N = N) {F : Nat → UInt8} {fat mfat : Nat → Nat} {W : Nat → UInt8} (hW : Wrote L F fat mfat W) (hb : L.bytes ≤ 131072) (ob : Nat) (hB : Bts w ob L.bytes F)
    (hp : ∀ i, 65 ≤ i → i ≤ 90 → w.cell? ⟨2, i, none⟩ = some (.int .u8 160)) (h2w : 2 < w.heap.size) :
    Calls Tryd.prog 11 #[.slice (some ⟨ob, 0, none⟩) L.bytes L.bytes] w fun e w' => Fr [] w w' ∧ ∃ v, e = .returned (.tuple #[v, .int .i64 0]) ∧ EntsAre w' w.heap.size v N (fun i => t.order.getD i 0) nd (fun i => (t.pths (fun k => (nd k).name) []).getD i []) := by
  obtain ⟨hLO, hFO⟩ := h.file hL hW hb
  have hlen := h.tree.len
  have hlt : ∀ i, i < N → t.order.getD i 0 < N := fun i hi => by
    refine h.tree.lt _ ?_
    rw [List.getD_eq_getElem?_getD, List.getElem?_eq_getElem (by omega)]
    simp
  refine (entries_ok ob 0 L.bytes L.bytes L.sz (L.cnt 0) L.mn (L.cnt 2) F (L.chn 0) (L.chn 1) (L.chn 2) L.EP t.toTr w (fun i hi => by rw [Nat.zero_add]; exact (Blk.cell hB i).trans (tab_get _ _ _ hi)) hFO (by omega) hp h2w).mono ?_
  rintro e w' ⟨hf, v, pth, rfl, ho, ht⟩
  rw [NT.toTr_order, hlen] at ho ht
  refine ⟨hf, v, rfl, EntsAre.of (pth := pth) h.n1 ?_ ?_⟩
  · have e1 : entRows N (fun i => t.order.getD i 0) L.EP pth (entB F L.sz (L.chn 0)) = eRows N (fun i => t.order.getD i 0) nd pth := by
      unfold entRows eRows
      rw [List.flatMap_def, List.flatMap_def]
      congr 1
      apply List.map_congr_left
      intro i hi
      rw [ent_eq hW hLO hb _ (by rw [hL.2]; exact hlt i (by simpa using hi)), hL.1]
    rw [← e1]
    exact ho
  · intro i hi
    have h1 := ht i hi
    have h2 : ∀ q, ((t.toTr.paths (fun e => (L.EP e).name) []).map Prod.snd).getD i q = ((t.pths (fun k => (nd k).name) [])).getD i q := by
      intro q
      rw [NT.pths_snd]
      congr 1
      refine NT.pths_congr t _ (fun e he => ?_)
      unfold Lay.EP
      rw [if_pos (by rw [hL.2]; exact h.tree.lt e he), hL.1]
    have h3 := h2 []
    rw [List.getD_eq_getElem?_getD, List.getElem?_map] at h3
    rw [List.getD_eq_getElem?_getD] at h1
    cases hq : (t.toTr.paths (fun e => (L.EP e).name) [])[i]? with
    | none =>
      rw [hq] at h1 h3
      simp only [Option.getD_none, Option.map_none] at h1 h3
      rw [← h3]
      exact h1
    | some y =>
      rw [hq] at h1 h3
      simp only [Option.getD_some, Option.map_some] at h1 h3
      rw [← h3]
      exact h1
end Go.Proofs.YtokpomdfgbbhlaaDoor

/- The walk of FnCodes. -/
namespace Go.Proofs.YtokpomdfgbbhlaaDoor
open Go Go.RowKit Go.Maps

theorem xor_byte (a : UInt8) (d : Int) (h0 : 1 ≤ d) (h1 : d < 256) : ∃ y : UInt8, y ≠ a ∧ Value.int .u8 (bits .xor .u8 (a.toNat : Int) d) = U8 y := by
  have ha := a.toNat_lt
  obtain ⟨m, rfl⟩ := Int.eq_ofNat_of_zero_le (show 0 ≤ d by omega)
  refine ⟨a ^^^ UInt8.ofNat m, xor_ne _ _ (fun h => ?_), ?_⟩
  · have := congrArg UInt8.toNat h
    simp at this
    omega
  · rw [u8_xor _ _ (by omega) (by omega) (by omega) (by omega)]
    unfold U8
    congr 1
    simp
    rw [Nat.mod_eq_of_lt (show m < 256 by omega)]

set_option maxRecDepth 100000 in
set_option maxHeartbeats 8000000 in
theorem codes_any (nb no nn ncap eb eo : Nat) (num : Nat → Nat) (na : Option Addr) (four : Bool) (place by_ cut : Nat) (s : ByteArray) (w : World) (hplace : place < 256) (hby : by_ < 256) (hcu : cut < 65536) (hnc : nn ≤ ncap ∧ ncap ≤ 9223372036854775807)
    (hnum : ∀ i, num i < 4294967296) (hna : 0 < nn → na = some ⟨nb, no, none⟩) (hnums : ∀ i, i < nn → w.cell? ⟨nb, no + i, none⟩ = some (.int .u32 (num i : Nat)))
    (hev : w.cell? ⟨0, 0, none⟩ = some (.iface 187 (.pointer (some ⟨eb, eo, none⟩)))) (hes : w.cell? ⟨eb, eo, none⟩ = some (.string s))
    (hp : ∀ i, 65 ≤ i → i ≤ 90 → w.cell? ⟨2, i, none⟩ = some (.int .u8 160)) (h2w : 2 < w.heap.size) :
    Calls Tryd.prog 6 #[.slice na nn ncap, .bool four, .int .u8 (place : Int), .int .u8 (by_ : Int), .int .u16 (cut : Int)] w fun e w' => e = .returned (.bool true) ∧ Fr [] w w' := by
  have HNUM := Lib.hid hnum
  have HNA := Lib.hid hna
  have HNUMS := Lib.hid hnums
  have HP := Lib.hid hp
  have HEV := Lib.hid hev
  have HES := Lib.hid hes
  clear hnum hna hnums hp hev hes
  by_cases h1 : 2147483647 < nn
  · have hd : decide ((2147483647 : Int) < (nn : Int)) = true := by simp; omega
    go_enter Tryd.func6, Tryd.ntmps6
    go_wp2_with fail
    go_ret
    exact ⟨rfl, Fr.refl _ _⟩
  have hd1 : decide ((2147483647 : Int) < (nn : Int)) = false := by simp; omega
  by_cases h3 : 100 < nn
  · have hd : decide ((100 : Int) < (nn : Int)) = true := by simp; omega
    go_enter Tryd.func6, Tryd.ntmps6
    go_wp2_with fail
    go_ret
    exact ⟨rfl, Fr.refl _ _⟩
  have hd3 : decide ((100 : Int) < (nn : Int)) = false := by simp; omega
  go_enter Tryd.func6, Tryd.ntmps6
  go_wp2_with fail
  refine (nodes_any nb no nn ncap 0 0 0 0 num (fun _ => 0) na none w hnc (by omega) HNUM.out HNA.out (fun h => absurd h (by omega)) HNUMS.out (fun i hi => absurd hi (by omega))).mono ?_
  rintro e w1 ⟨lb, N, cap, nd, dv, t, rfl, hcap1, hcap2, hf1, hN⟩
  have hn1 := hN.n1
  have hn2 := hN.n2
  have HN := Lib.hid hN
  have HF1 := Lib.hid hf1
  clear hN hf1
  go_wp2_with fail
  have hwr := write_a lb cap ⟨N, nd, four, 1⟩ dv w1 (HN.out.ok _ _) (HN.out.nds _ _) ⟨hcap1, hcap2⟩ (by show 1 ≤ 300; omega)
  have hver : (Lay.mk N nd four 1).ver = if four = true then 4 else 3 := rfl
  have hLN : (Lay.mk N nd four 1).N = N := rfl
  have hLS : (Lay.mk N nd four 1).step = 1 := rfl
  have hLnd : (Lay.mk N nd four 1).nd = nd := rfl
  rw [hver, hLN, hLS] at hwr
  generalize (Lay.mk N nd four 1) = L at *
  generalize hv : (if four = true then 4 else 3) = ver at *
  have HV := Lib.hid hv
  have HWR := Lib.hid hwr
  have HL := Lib.hid (And.intro hLnd hLN)
  clear hwr hver hLN hLS hLnd hv
  refine (version_is four ver HV.out _).mono ?_
  rintro e w3 ⟨rfl, rfl⟩
  go_wp2_with fail
  refine HWR.out.mono ?_
  rintro e w3 ⟨ob, F, fat, mfat, W, rfl, hf3, hob, hB, hW⟩
  have HW := Lib.hid hW
  have HF3 := Lib.hid (HF1.out.trans0 hf3)
  have HN3 := Lib.hid (HN.out.fr hf3)
  have HB := Lib.hid hB
  clear hW hf3 HN hB HWR
  by_cases hbig : 131072 < L.bytes
  · have hd : (131072 : Int) < (L.bytes : Int) := by omega
    go_wp2_with fail
    go_ret
    exact ⟨rfl, HF3.out⟩
  have hdI : ¬ (131072 : Int) < (L.bytes : Int) := by omega
  go_upto_region 8 with (fail)
  go_cut [12] from 40 to 44 (fun s12 w4 => Fr [] w3 w4 ∧ ∃ at_ : Nat, s12 = .int .i64 at_ ∧ (at_ < 8 ∨ at_ = 30 ∨ at_ = 31))
  case first =>
    have hq : (place : Int) % 10 = 0 ∨ (place : Int) % 10 = 1 ∨ (place : Int) % 10 = 2 ∨ (place : Int) % 10 = 3 ∨ (place : Int) % 10 = 4 ∨ (place : Int) % 10 = 5 ∨ (place : Int) % 10 = 6 ∨ (place : Int) % 10 = 7 ∨ (place : Int) % 10 = 8 ∨ (place : Int) % 10 = 9 := by omega
    have hf4 : Fr [] w3 (w3.alloc (Obj.cells #[.int .i64 0, .int .i64 1, .int .i64 2, .int .i64 3, .int .i64 4, .int .i64 5, .int .i64 6, .int .i64 7, .int .i64 30, .int .i64 31] 3)) := (Fr.refl _ _).alloc _
    rcases hq with hq | hq | hq | hq | hq | hq | hq | hq | hq | hq
    · go_wp2_with fail
      go_meet
      case rel => exact ⟨hf4, 0, rfl, by omega⟩
    · go_wp2_with fail
      go_meet
      case rel => exact ⟨hf4, 1, rfl, by omega⟩
    · go_wp2_with fail
      go_meet
      case rel => exact ⟨hf4, 2, rfl, by omega⟩
    · go_wp2_with fail
      go_meet
      case rel => exact ⟨hf4, 3, rfl, by omega⟩
    · go_wp2_with fail
      go_meet
      case rel => exact ⟨hf4, 4, rfl, by omega⟩
    · go_wp2_with fail
      go_meet
      case rel => exact ⟨hf4, 5, rfl, by omega⟩
    · go_wp2_with fail
      go_meet
      case rel => exact ⟨hf4, 6, rfl, by omega⟩
    · go_wp2_with fail
      go_meet
      case rel => exact ⟨hf4, 7, rfl, by omega⟩
    · go_wp2_with fail
      go_meet
      case rel => exact ⟨hf4, 30, rfl, by omega⟩
    · go_wp2_with fail
      go_meet
      case rel => exact ⟨hf4, 31, rfl, by omega⟩
  case rest =>
  obtain ⟨hf4, at_, rfl, hat⟩ := hcut
  have hF4 := HF3.out.trans0 hf4
  have hN4 := HN3.out.fr hf4
  obtain ⟨hLO, hFO⟩ := HN3.out.file HL.out HW.out (by omega)
  have hn0 := hFO.n0
  have hdr := hFO.hdr
  have hB4 := HB.out.fr0 hf4
  obtain ⟨i0, hi, hz0, hz1, hz2⟩ := info_parts info5
  have HF4 := Lib.hid hF4
  have HN4 := Lib.hid hN4
  have HB4 := Lib.hid hB4
  have HDR := Lib.hid hdr
  clear hF4 hN4 hB4 hdr hLO hFO HF3 HN3 HB hf4
  go_wp2_with (at_builtin; refine wpList_append_own _ rfl (.tmp 45) (.tmp 46) 23 rfl wc.heap.size 5 i0 (.int .u8 0) 1 1 Tryd.underlying23 hi hz0 hz1 hz2 rfl (by decide) (.slice (some ⟨wc.heap.size, 0, none⟩) 0 0) 0 [] rfl (own_lit0 wc 5 _ (Nat.le_refl _)) ⟨ob, 0, none⟩ L.bytes L.bytes (tab L.bytes (fun i => U8 (F i))) rfl ?c1 ?c2 ?c3 ?c4 ?c5 (by simp) ?c6)
  case c1 => simp
  case c2 =>
    intro j u hj
    rw [add_zero']
    exact (((Fr.refl [] wc).alloc _).cell0 ((Blk.cell HB4.out j).trans hj))
  case c3 =>
    intro u hu
    obtain ⟨i, hi⟩ := List.getElem?_of_mem hu
    rw [tab_get?] at hi
    split at hi
    · simp at hi; subst hi; rfl
    · cases hi
  case c4 => unfold maxLen; omega
  case c5 => omega
  intro v' w5 hown hg _
  obtain ⟨xb, xcap, lx, rfl, hxb0, hxb, hxl, hxc1, hxc2⟩ := own_blk2 hown (by omega)
  have hf5 : Fr [] wc w5 := ((Fr.refl [] wc).alloc _).trans (Fr.of_grown hg) (by simp [Value.ownBlock])
  have hatI : (at_ : Int) < (L.bytes : Int) := by omega
  have cx : w5.cell? ⟨xb, at_, none⟩ = some (U8 (F at_)) := (hxb.cell at_).trans (hxl at_ (by omega))
  have zx := hxb.frozen at_
  have HX := Lib.hid (And.intro hxb (And.intro hxl hf5))
  clear hown hg hxb hxl hf5
  go_upto_region 10 with (fail)
  go_cut [] from 48 to 56 (fun w6 => ∃ y : UInt8, y ≠ F at_ ∧ w6 = w5.setCell ⟨xb, at_, none⟩ (U8 y))
  case first =>
    generalize F at_ = fa at *
    have hxy := Lib.hid (xor_byte fa (1 + (by_ : Int) % 255) (by omega) (by omega))
    go_wp2_with fail
    go_meet
    case rel =>
      obtain ⟨y, hy, he⟩ := hxy.out
      exact ⟨y, hy, by rw [← he]⟩
  case rest =>
  obtain ⟨y, hy, rfl⟩ := hcut
  obtain ⟨hxb, hxl, hf5⟩ := HX.out
  obtain ⟨G, hG⟩ : ∃ G : Nat → UInt8, G = fun i => if i = at_ then y else F i := ⟨_, rfl⟩
  have hxG : ∀ i, i < L.bytes → (w5.setCell ⟨xb, at_, none⟩ (U8 y)).cell? ⟨xb, i, none⟩ = some (U8 (G i)) := by
    intro i hi
    rw [(hxb.set at_ (U8 y)).cell, hG]
    by_cases hia : i = at_
    · subst hia
      rw [List.getElem?_set_self (List.getElem?_eq_some_iff.1 (hxl i hi)).1]
      simp
    · rw [List.getElem?_set_ne (Ne.symm hia), hxl i hi]
      simp [hia]
  have hf6 : Fr [] wc (w5.setCell ⟨xb, at_, none⟩ (U8 y)) := hf5.setCell (.inr hxb0) _
  have g30 := hxG 30 (by omega)
  have g31 := hxG 31 (by omega)
  have hbad : (at_ < 8 ∨ ¬ (G 31 = 0 ∧ (G 30 = 9 ∨ G 30 = 12))) → HdrBad G := by
    rintro (h | h)
    · exact bad_sig HDR.out at_ h (by rw [hG]; simpa using hy)
    · rcases hat with h8 | h8
      · exact bad_sig HDR.out at_ h8 (by rw [hG]; simpa using hy)
      · exact bad_shift HDR.out (fun i hi => by rw [hG]; have : i ≠ at_ := by omega
                                                simp [this]) h
  have HXG := Lib.hid hxG
  have HF6 := Lib.hid hf6
  have HBAD := Lib.hid hbad
  clear hxb hxl hf5 hG hxG hf6 hbad cx zx HX
  generalize w5.setCell ⟨xb, at_, none⟩ (U8 y) = w6 at *
  go_upto_region 11 with (fail)
  go_cut [76] from 57 to 76 (fun s76 w7 => w6 = w7 ∧ ∃ b : Bool, s76 = .bool b ∧ (b = false → HdrBad G))
  case first =>
    by_cases h8 : at_ < 8
    · have h30 : ¬ (30 : Int) ≤ (at_ : Int) := by omega
      have HB8 := Lib.hid (HBAD.out (.inl h8))
      go_wp2_with fail
      go_meet
      case rel => exact ⟨rfl, _, rfl, fun _ => HB8.out⟩
    · have h30 : (30 : Int) ≤ (at_ : Int) := by omega
      by_cases e31 : G 31 = 0
      · have e31B : (((G 31).toNat : Int) == 0) = true := by rw [e31]; rfl
        by_cases e30 : G 30 = 9
        · have e30B : (((G 30).toNat : Int) == 9) = true := by rw [e30]; rfl
          have E1 := Lib.hid e31
          have E2 := Lib.hid e30
          clear e31 e30
          go_wp2_with fail
          go_meet
          case rel => exact ⟨rfl, true, rfl, fun h => by cases h⟩
        · have e30B : (((G 30).toNat : Int) == 9) = false := by simp; intro h; exact e30 (UInt8.toNat_inj.1 (by show (G 30).toNat = 9; omega))
          by_cases e12 : G 30 = 12
          · have e12B : (((G 30).toNat : Int) == 12) = true := by rw [e12]; rfl
            have E1 := Lib.hid e31
            have E2 := Lib.hid e12
            clear e31 e12 e30
            go_wp2_with fail
            go_meet
            case rel => exact ⟨rfl, true, rfl, fun h => by cases h⟩
          · have e12B : (((G 30).toNat : Int) == 12) = false := by simp; intro h; exact e12 (UInt8.toNat_inj.1 (by show (G 30).toNat = 12; omega))
            have HB9 := Lib.hid (HBAD.out (.inr (fun h => h.2.elim e30 e12)))
            have E1 := Lib.hid e31
            clear e31 e12 e30
            go_wp2_with fail
            go_meet
            case rel => exact ⟨rfl, false, rfl, fun _ => HB9.out⟩
      · have e31B : (((G 31).toNat : Int) == 0) = false := by simp; intro h; exact e31 (UInt8.toNat_inj.1 (by show (G 31).toNat = 0; omega))
        have HB9 := Lib.hid (HBAD.out (.inr (fun h => e31 h.1)))
        clear e31
        go_wp2_with fail
        go_meet
        case rel => exact ⟨rfl, false, rfl, fun _ => HB9.out⟩
  case rest =>
  obtain ⟨rfl, b, rfl, hb⟩ := hcut
  cases b
  case true =>
    have HW7 := Lib.hid (HF4.out.trans0 HF6.out)
    clear hb
    go_wp2_with fail
    go_ret
    exact ⟨rfl, HW7.out⟩
  case false =>
  have hsh1 : ∀ w7, Fr [] w6 w7 → Shut 1 (.slice (some ⟨xb, 0, none⟩) L.bytes xcap) w7 := fun w7 hf7 => opened_bad xb 0 L.bytes xcap G w7 (fun i hi => by rw [Nat.zero_add]; exact hf7.cell0 (HXG.out i hi)) hn0 (hb rfl) (by omega)
  obtain ⟨c, hcN⟩ : ∃ c, c = cut % 512 := ⟨_, rfl⟩
  have hcI : (cut : Int) % 512 = (c : Int) := by omega
  have hc512 : c < 512 := by omega
  have hFW6 := HF4.out.trans0 HF6.out
  have hsh2 : ∀ w7, Fr [] w6 w7 → Shut 2 (.slice (some ⟨ob, 0, none⟩) c L.bytes) w7 := fun w7 hf7 => opened_short ob 0 c L.bytes eb eo s F w7 (fun i hi => by rw [Nat.zero_add]; exact hf7.cell0 (HF6.out.cell0 ((Blk.cell HB4.out i).trans (tab_get _ _ _ (by omega))))) (hf7.cell0 (hFW6.cell0 HEV.out)) (hf7.cell0 (hFW6.cell0 HES.out)) hc512
  have HS1 := Lib.hid hsh1
  have HS2 := Lib.hid hsh2
  have HFW6 := Lib.hid hFW6
  clear hsh1 hsh2 hb hFW6 hcN
  go_wp2_with fail
  refine (entries_err 1 L.bytes xcap (.inl rfl) (some ⟨xb, 0, none⟩) w6 HS1.out).mono ?_
  rintro e w7 ⟨v7, rfl, hf7⟩
  have H7 := Lib.hid hf7
  clear hf7
  have hcL : (c : Int) ≤ (L.bytes : Int) := by omega
  go_wp2_with fail
  refine (entries_err 2 c L.bytes (.inr rfl) (some ⟨ob, 0, none⟩) w7 (fun w8 hf8 => HS2.out w8 (H7.out.trans0 hf8))).mono ?_
  rintro e w8 ⟨v8, rfl, hf8⟩
  have H8 := Lib.hid (H7.out.trans0 hf8)
  clear hf8 H7
  go_wp2_with fail
  have hf8 := HFW6.out.trans0 H8.out
  have hf48 := HF6.out.trans0 H8.out
  refine (entries_wrote (HN4.out.fr hf48) L HL.out HW.out (by omega) ob (HB4.out.fr0 hf48) (fun i a b => hf8.cell0 (HP.out i a b)) (by have := hf8.size; omega)).mono ?_
  rintro e w9 ⟨hf9, v9, rfl, _⟩
  have H9 := Lib.hid (H8.out.trans0 hf9)
  clear hf9 hf8 hf48 H8
  go_wp2_with fail
  refine (walk_err 1 L.bytes xcap (.inl rfl) (some ⟨xb, 0, none⟩) w9 (fun w10 hf10 => HS1.out w10 (H9.out.trans0 hf10))).mono ?_
  rintro e w10 ⟨v10, rfl, hf10⟩
  have H10 := Lib.hid (H9.out.trans0 hf10)
  clear hf10 H9
  go_wp2_with fail
  refine (root_err 1 L.bytes xcap (.inl rfl) (some ⟨xb, 0, none⟩) w10 (fun w11 hf11 => HS1.out w11 (H10.out.trans0 hf11))).mono ?_
  rintro e w11 ⟨rfl, hf11⟩
  have H11 := Lib.hid (H10.out.trans0 hf11)
  clear hf11 H10
  have hbk := Blk.new' w11 36 (Array.replicate 16 (Value.int .u8 0))
  go_wp2_with (refine wpList_store_blk rfl 36 (.tmp 22) (.tmp 104) rfl w11.heap.size 0 (guidA (fun _ => 0)) rfl rfl 36 _ hbk ?_ ?_ (guidA_one _) ?_)
  · simp [guidA_size]
  · rw [guidA_size]; kernel_rfl
  · intro w12 hf12 _
    have HFR := Lib.hid (HFW6.out.trans0 (((H11.out.trans0 ((Fr.refl [] w11).alloc _))).trans hf12 (by have := H11.out.size; simp; omega)))
    clear hf12
    go_wp2_with fail
    go_ret
    exact ⟨rfl, HFR.out⟩
end Go.Proofs.YtokpomdfgbbhlaaDoor

/- FnCodes: a file with another byte of its signature or of the size of its sectors is an error of its format, one of less than a header an error of reading, for every numbers, version, place, byte and length. -/
namespace Go.Proofs.YtokpomdfgbbhlaaDoor
open Go Go.ChangeShapes Go.WideShapes Go.ChangeAt Go.RowKit Go.Clock

theorem wf_u32c {n : Int} (h : (Lit.int .u32 n).wf = true) : 0 ≤ n ∧ n ≤ 4294967295 := by simpa [Lit.wf, IntKind.min, IntKind.max, IntKind.signed, IntKind.bits] using h
theorem wf_u16c {n : Int} (h : (Lit.int .u16 n).wf = true) : 0 ≤ n ∧ n ≤ 65535 := by simpa [Lit.wf, IntKind.min, IntKind.max, IntKind.signed, IntKind.bits] using h
theorem wf_u8c {n : Int} (h : (Lit.int .u8 n).wf = true) : 0 ≤ n ∧ n ≤ 255 := by simpa [Lit.wf, IntKind.min, IntKind.max, IntKind.signed, IntKind.bits] using h

theorem codesTs : ∀ t ∈ Tryd.f6.params.toList, Tryd.prog.readableRec t = true ∧ t < Tryd.prog.types.size := by
  have h : (Tryd.f6.params.toList.all fun t => Tryd.prog.readableRec t && decide (t < Tryd.prog.types.size)) = true := by kernel_rfl
  intro t ht
  have := List.all_eq_true.1 h t ht
  simpa using this


set_option maxRecDepth 100000 in
theorem codes_contract (H : Type) (enc : TypeId × Value → H) (W : World) (base : Nat) (args : Array Value) (ds gs : List (DataW H)) (before : List MemPlace)
    (hval : ∀ (j : Nat) t v, Tryd.f6.params[j]? = some t → args[j]? = some v → Value.okWide Tryd.prog W .any base t v)
    (hW : DataW.Whole enc Tryd.prog Tryd.f6.params.toList Rows.fnCodesSpec.vars false W args.toList ds gs before) (hL : laidMet Tryd.prog Rows.fnCodesRow.laid W) :
    Calls Tryd.prog 6 args W fun e W' => ∃ v, e = .returned v ∧ Rows.fnCodesSpec.post enc Tryd.prog Tryd.f6 false true false false W args v W' ∧ W'.os = W.os := by
  have hp := props_head hL.tail
  obtain ⟨eb, eo, s, hev, hes⟩ := eof_head hL
  have h2w : 2 < W.heap.size := World.block_lt_of_cell? _ _ (hp 65 (by omega) (by omega))
  have hW' := hW
  obtain ⟨p, q, hA0, hV, rfl, hfz, hnd⟩ := hW
  have hA : DataW.TrodAll enc Tryd.prog W 0 (fun _ => true) true Tryd.f6.params.toList args.toList ds p := hA0
  rw [Tryd.params6] at hA hval
  obtain ⟨v0, vs0, d0, ds0, p0, q0, hargs, rfl, rfl, h0, r0⟩ := trodAll_cons hA
  obtain ⟨v1, vs1, d1, ds1, p1, q1, rfl, rfl, rfl, h1, r1⟩ := trodAll_cons r0
  obtain ⟨v2, vs2, d2, ds2, p2, q2, rfl, rfl, rfl, h2, r2⟩ := trodAll_cons r1
  obtain ⟨v3, vs3, d3, ds3, p3, q3, rfl, rfl, rfl, h3, r3⟩ := trodAll_cons r2
  obtain ⟨v4, vs4, d4, ds4, p4, q4, rfl, rfl, rfl, h4, r4⟩ := trodAll_cons r3
  obtain ⟨rfl, rfl, rfl⟩ := trodAll_nil r4
  obtain rfl : args = #[v0, v1, v2, v3, v4] := by cases args; simp_all
  obtain ⟨rfl, rfl⟩ := trodVars_none hV
  obtain ⟨na, nn, ncap, nb, no, num, rfl, hnc, hna, hnums, hnw⟩ := open_sl Tryd.underlying22 Tryd.underlying63 rcells63 (hval 0 22 v0 rfl rfl) h0
  obtain ⟨four, rfl, rfl, rfl⟩ := open_bool Tryd.underlying4 (hval 1 4 v1 rfl rfl) h1
  obtain ⟨pl, rfl, rfl, rfl, wpl⟩ := open_int Tryd.underlying5 (hval 2 5 v2 rfl rfl) h2
  obtain ⟨by_, rfl, rfl, rfl, wby⟩ := open_int Tryd.underlying5 (hval 3 5 v3 rfl rfl) h3
  obtain ⟨cu, rfl, rfl, rfl, wcu⟩ := open_int Tryd.underlying58 (hval 4 58 v4 rfl rfl) h4
  clear hA0 hval
  simp only [List.append_nil] at hW'
  obtain ⟨plN, rfl⟩ := Int.eq_ofNat_of_zero_le (wf_u8c wpl).1
  obtain ⟨byN, rfl⟩ := Int.eq_ofNat_of_zero_le (wf_u8c wby).1
  obtain ⟨cuN, rfl⟩ := Int.eq_ofNat_of_zero_le (wf_u16c wcu).1
  have hpl := (wf_u8c wpl).2
  have hby := (wf_u8c wby).2
  have hcu := (wf_u16c wcu).2
  refine (codes_any nb no nn ncap eb eo (fun i => (num i).toNat) na four plN byN cuN s W (by omega) (by omega) (by omega) hnc
    (fun i => by have := wf_u32c (hnw i); omega) hna (fun i hi => by rw [hnums i hi]; have := wf_u32c (hnw i); congr 2; omega) hev hes hp h2w).mono ?_
  rintro e W' ⟨rfl, hf⟩
  exact ⟨_, rfl, post_law rfl (by kernel_rfl) codesTs rfl hW' hf.below, hf.os⟩

noncomputable def codesWorld (os : Os) : World := World.laidAll Tryd.prog os Rows.fnCodesRow.laid
def codesArgs : Array Value := #[.slice none 0 0, .bool false, .int .u8 0, .int .u8 0, .int .u16 0]
theorem codes_met (os : Os) : laidMet Tryd.prog Rows.fnCodesRow.laid ((codesWorld os).forCall (fun _ _ => 0) ⟨#[], codesArgs, []⟩).memory :=
  laidMet_laidAll _ (by kernel_rfl) (by kernel_rfl)
theorem codes_reads (os : Os) {H : Type} (enc : TypeId × Value → H) : ∃ places, DataW.whole enc Tryd.prog ((codesWorld os).forCall (fun _ _ => 0) ⟨#[], codesArgs, []⟩).memory Tryd.f6.params.toList Rows.fnCodesSpec.vars false codesArgs.toList 8 =
    some ([.nil, .lit (.bool false), .lit (.int .u8 0), .lit (.int .u8 0), .lit (.int .u16 0)], [], places) :=
  ⟨[], by kernel_rfl⟩

set_option maxRecDepth 100000 in
theorem codes_lifted (os : Os) (started : os.Started) (H : Type) (enc : TypeId × Value → H) (F : Stop.Interp) :
    ReturnsInHanded {} Tryd.checked os 6 .any ((OpenSpec.ofChange Rows.fnCodesSpec).preRow enc Tryd.prog Tryd.f6 Rows.fnCodesRow.domain false Rows.fnCodesRow.laid) (((OpenSpec.ofChange Rows.fnCodesSpec).at F).post enc Tryd.prog Tryd.f6 false true false false) := by
  obtain ⟨places, hx⟩ := codes_reads os enc
  refine returnsInHanded_of_row (C := Tryd.checked) (s := OpenSpec.ofChange Rows.fnCodesSpec) own started (by kernel_rfl) Tryd.func6
    (witness_row_at (enc := enc) (C := Tryd.checked) false (codesWorld os) codesArgs rfl (by kernel_rfl) (by kernel_rfl) (by kernel_rfl)
      (OpenSpec.preRow_of_cond 8 hx (by kernel_rfl) (fun k hk => by cases hk) (by kernel_rfl) (codes_met os))) ?_
  intro W base args ds gs before hval hW _ _ _ hL _ _
  refine (codes_contract H enc W base args ds gs before hval hW hL).mono ?_
  rintro e W' ⟨v, he, hpost, _⟩
  exact ⟨v, he, hpost⟩

set_option maxRecDepth 100000 in
theorem codes_lifted2 (os : Os) (started : os.Started) (H : Type) (enc : TypeId × Value → H) (F : Stop.Interp) :
    ReturnsInHanded { calm := true } Tryd.checked os 6 .any (fun w args => (Rows.fnCodesSpec.pre enc Tryd.prog Tryd.f6 [] false w args ∧ laidMetH Tryd.prog Rows.fnCodesRow.laid w) ∧ sizedMet enc Tryd.prog Tryd.f6 (OpenSpec.ofChange Rows.fnCodesSpec) false w args)
      ((OpenSpec.ofChange Rows.fnCodesSpec).postWith enc Tryd.prog Tryd.f6 F (outsideKept [.timePasses]) false true false) := by
  refine returns_of_change (C := Tryd.checked) (X := fun w _ => laidMetH Tryd.prog Rows.fnCodesRow.laid w) (fun _ _ _ hh h => h.of_heap hh) own started (by kernel_rfl) Tryd.func6
    (witness_at (enc := enc) (C := Tryd.checked) (X := fun w _ => laidMetH Tryd.prog Rows.fnCodesRow.laid w) (World.laidAll Tryd.prog os Rows.fnCodesRow.laid) codesArgs 8 (World.laidAll_os _ _ _) (World.shaped_of_ZipB (by kernel_rfl) (by kernel_rfl)) (by kernel_rfl) (by kernel_rfl) (by kernel_rfl)
      (by rw [MakeChecks.laidMetH_plain _ _ _ (by kernel_rfl)]; exact laidMet_laidAll _ (by kernel_rfl) (by kernel_rfl))) ?_
  intro W base args ds gs before hval hW _ _ hL _
  rw [MakeChecks.laidMetH_plain _ _ _ (by kernel_rfl)] at hL
  refine (codes_contract H enc W base args ds gs before hval hW hL).mono ?_
  rintro e W' ⟨v, he, hpost, ho⟩
  have hos : { W' with os := W.os } = W' := by rw [← ho]
  refine ⟨v, he, ?_, by rw [ho]; exact Later.refl _⟩
  rw [hos]
  exact hpost

theorem codes_said : Rows.FnCodesSaid := by
  first
    | exact OpenClaim.holds_of_cond 6 Tryd.f6 rfl rfl rfl rfl rfl rfl rfl ⟨rfl, rfl, rfl, rfl, rfl⟩ rfl rfl rfl rfl rfl (by kernel_rfl) Tryd.func6 (by kernel_rfl)
        (of_decide_eq_true (by kernel_rfl)) (by unfold Func.isWrapper; first | (rw [if_pos (by decide +kernel)]; kernel_rfl) | (rw [if_neg (by decide +kernel)]; exact ⟨rfl, rfl⟩))
        (fun os started H enc _ F => by rw [OpenClaim.pre_eq_preRow]; exact codes_lifted os started H enc F)
    | exact holds_of_wide_time 6 Tryd.f6 rfl rfl rfl rfl rfl rfl rfl ⟨rfl, rfl, rfl, rfl, rfl⟩ rfl rfl rfl rfl rfl (by kernel_rfl) Tryd.func6 (by kernel_rfl)
        (of_decide_eq_true (by kernel_rfl)) (by unfold Func.isWrapper; first | (rw [if_pos (by decide +kernel)]; kernel_rfl) | (rw [if_neg (by decide +kernel)]; exact ⟨rfl, rfl⟩))
        (fun os started H enc _ F => codes_lifted2 os started H enc F)

theorem codes_plain (f : FuncId) (fn : Func) (hf : Tryd.pinned.checked.prog.funcNamed "loop.example/pub-g03458/laws.FnCodes" = some f) (hfn : Tryd.pinned.checked.prog.funcs[f]? = some fn) :
    true = Tryd.pinned.checked.prog.looks [] ∧ ∀ (j : Nat) t, fn.params[j]? = some t → Tryd.pinned.checked.prog.wantsStandIn t = false := by
  obtain rfl : f = 6 := Option.some.inj ((show Tryd.prog.funcNamed "loop.example/pub-g03458/laws.FnCodes" = some 6 by kernel_rfl).symm.trans hf) |>.symm
  obtain rfl : fn = Tryd.f6 := (Option.some.inj (Tryd.func6.symm.trans hfn)).symm
  refine ⟨by kernel_rfl, fun j t ht => ?_⟩
  have h : (Tryd.f6.params.toList.all fun t => !Tryd.prog.wantsStandIn t) = true := by kernel_rfl
  have := List.all_eq_true.1 h t (by simpa using Array.mem_of_getElem? ht)
  exact (show Tryd.prog.wantsStandIn t = false by simpa using this)

theorem codes_card : Rows.FnCodesCardSaid :=
  Claim7.holds_tied_plain_at .later [] _ _ _ _ codes_said (fun _ h => by cases h) (by kernel_rfl) (fun _ h => by cases h) fnCodes_row_tie rfl ⟨rfl, rfl⟩ (by kernel_rfl) rfl codes_plain (by kernel_rfl)
end Go.Proofs.YtokpomdfgbbhlaaDoor
#print axioms Go.Proofs.YtokpomdfgbbhlaaDoor.codes_card
