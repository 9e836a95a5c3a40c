/- FnMixed: a stream is read, sought and written by steps, what is told is what stands there then, the file behind all is that of the stream with these bytes (part 17 of 18). No condition but the statement's own. -/
import Derived.Deep.CutBlock
import Derived.Test.YtokpomdfgbbhlaaDoorMxp
set_option linter.all false
set_option linter.unusedVariables false
set_option linter.unusedSimpArgs false
set_option linter.unnecessarySimpa false
/- Steps over a written file of nodes: what FnMixed's call of impl.Steps yields; append of a struct onto a row of the call's own. -/
namespace Go.Proofs.YtokpomdfgbbhlaaDoor
open Go Go.RowKit Go.Maps

theorem info66 : (Tryd.prog.info? 66).map (fun i => (i.zero.map (·.cells.size), i.size, i.bytes)) = some (some 5, 5, 56) := by kernel_rfl

/-- What an owned row holds is settled by memory. -/
theorem own_unique {w : World} {base : Nat} {e : TypeId} {size n : Nat} {v : Value} {xs ys : List Value} (h : w.ownsRow base e size v n xs) (k : w.ownsRow base e size v n ys) : xs = ys := by
  have hx := h.1
  have hy := k.1
  rcases h.2 with ⟨rfl, rfl⟩ | ⟨g, cap, cur, rfl, _, hg, _, _, _, ht⟩
  · have a : xs = [] := List.eq_nil_of_length_eq_zero (by simpa using hx)
    have b : ys = [] := List.eq_nil_of_length_eq_zero (by simpa using hy)
    rw [a, b]
  · rcases k.2 with ⟨h0, _⟩ | ⟨g', cap', cur', hv, _, hg', _, _, _, ht'⟩
    · cases h0
    · injection hv with e1 e2 e3
      cases e1
      rw [hg] at hg'
      injection hg' with hg'
      injection hg' with hc
      rw [← ht, ← ht', hc]

theorem MxAt.step' {b4 nb len k i : Nat} {dat d : Nat → UInt8} {w3 w w' : World} {v9 v10 : Value} (h : MxAt b4 nb len dat w3 k i d v9 v10 w) {s : Stp} {i' : Nat} {d' : Nat → UInt8} {t : Tld} (hd : Does len s i d i' d' t) (hl : i' ≤ len) {ms : List Nat} (f : Fr ms w w')
    (hm : ∀ y ∈ ms, y = nb ∨ y ∈ v9.ownBlock.toList ∨ y ∈ v10.ownBlock.toList) (hb : ∃ l, Blk w' nb 5 l ∧ ∀ y, y < len → l[y]? = some (U8 (d' y))) {v9' v10' dv uv : Value} {x9 x10 : List Value} (o9 : w.ownsRow b4 66 5 v9 k x9) (o10 : w.ownsRow b4 55 3 v10 k x10)
    (h9 : w'.ownsRow b4 66 5 v9' (k + 1) (x9 ++ (stpV s dv).toList)) (h10 : w'.ownsRow b4 55 3 v10' (k + 1) (x10 ++ [uv, .int .i64 (t.num : Nat), .int .i64 0]))
    (hs : SvIs w' b4 dv s) (ho : w'.ownsRow b4 5 1 uv t.cnt (tab t.cnt (fun y => U8 (t.x y)))) : MxAt b4 nb len dat w3 (k + 1) i' d' v9' v10' w' :=
  h.step hd hl f hm hb (fun _ hx => own_unique o9 hx ▸ h9) (fun _ hx => own_unique o10 hx ▸ h10) hs ho

/-- append of one struct onto a row of the call's own. -/
theorem wpList_appS {ops : Array Oper} {rest : List Oper} {o : Oper} {a : Act} {Q : Exit → Act → World → Prop} {w : World} (hgd : o.guard = none) (s x : Operand) (t : TypeId)
    (ho : o.op = .call { callee := .builtin .append, args := #[s, x], argTypes := #[t, t] }) (e : TypeId) (size bytes : Nat) (ht : Tryd.prog.underlying t = some (.slice e))
    (hinfo : (Tryd.prog.info? e).map (fun i => (i.zero.map (·.cells.size), i.size, i.bytes)) = some (some size, size, bytes)) (hs0 : 0 < size) (hby : bytes ≤ 1000)
    (base : Nat) (v : Value) (n : Nat) (xs : List Value) (hs : a.eval s = v) (hown : w.ownsRow base e size v n xs) (cs : Array Value) (hx : a.eval x = .slice (some ⟨w.heap.size, 0, none⟩) 1 1) (hc : cs.size = size) (h1 : ∀ u ∈ cs.toList, u.oneCell' = true)
    (hn : n ≤ 100000) (hb : base ≤ w.heap.size)
    (h : ∀ v' w', w'.ownsRow base e size v' (n + 1) (xs ++ cs.toList) → Fr v.ownBlock.toList w w' → wpList Tryd.prog ops Q rest (a.put o.dst v') w') :
    wpList Tryd.prog ops Q (o :: rest) a (w.alloc (.cells cs e)) := by
  obtain ⟨i, z, hi, hz0, hz1, hz2, hz3⟩ := info_parts3 hinfo
  refine wpList_app hgd s x t ho e i z size bytes ht hi hz0 hz1 hz2 hz3 hs0 hby base v n xs hs (hown.alloc _) ⟨w.heap.size, 0, none⟩ 1 1 cs.toList hx (by omega) (by simp [hc]) (news2 _ _ _ rfl) h1 (by omega) (by simp; omega) ?_
  intro v' w' h2 h3 _
  exact h v' w' h2 ((((Fr.refl [] w).alloc _).mono (by simp)).trans h3 (fun k hk => .inl hk))

theorem u8_one (n : Nat) (f : Nat → UInt8) : ∀ u ∈ tab n (fun y => U8 (f y)), u.oneCell' = true := by
  intro u hu
  obtain ⟨y, hy⟩ := List.getElem?_of_mem hu
  rw [tab_get?] at hy
  split at hy
  · simp at hy; subst hy; rfl
  · cases hy

theorem u8_news {w : World} {b o n : Nat} {f : Nat → UInt8} (h : ∀ y, y < n → w.cell? ⟨b, o + y, none⟩ = some (U8 (f y))) : ∀ j u, (tab n (fun y => U8 (f y)))[j]? = some u → w.cell? ((⟨b, o, none⟩ : Addr).add j) = some u := by
  intro j u hj
  rw [tab_get?] at hj
  split at hj
  · rename_i hjn
    simp at hj; subst hj
    rw [Addr.add_mid]
    exact h j hjn
  · cases hj

/-- Bytes appended onto an empty row of the call's own. -/
theorem wpList_appB {ops : Array Oper} {rest : List Oper} {o : Oper} {a : Act} {Q : Exit → Act → World → Prop} {w : World} (hgd : o.guard = none) (s x : Operand)
    (ho : o.op = .call { callee := .builtin .append, args := #[s, x], argTypes := #[23, 23] }) (base : Nat) (v : Value) (hs : a.eval s = v) (hown : w.ownsRow base 5 1 v 0 []) (b off n c : Nat) (f : Nat → UInt8) (hx : a.eval x = .slice (some ⟨b, off, none⟩) n c)
    (hc : ∀ y, y < n → w.cell? ⟨b, off + y, none⟩ = some (U8 (f y))) (hn : n ≤ 1000000) (hb : base ≤ w.heap.size)
    (h : ∀ v' w', w'.ownsRow base 5 1 v' n (tab n (fun y => U8 (f y))) → Fr v.ownBlock.toList w w' → wpList Tryd.prog ops Q rest (a.put o.dst v') w') :
    wpList Tryd.prog ops Q (o :: rest) a w := by
  obtain ⟨i0, hi, hz0, hz1, hz2⟩ := info_parts info5
  refine wpList_append_own w hgd s x 23 ho base 5 i0 (.int .u8 0) 1 1 Tryd.underlying23 hi hz0 hz1 hz2 rfl (by decide) v 0 [] hs hown ⟨b, off, none⟩ n c (tab n (fun y => U8 (f y))) hx (by simp) (u8_news hc) (u8_one n f) (by unfold maxLen; omega) (by omega) hb ?_
  intro v' w' h1 h2 _
  rw [Nat.zero_add, List.nil_append] at h1
  exact h v' w' h1 (Fr.of_grown h2)

theorem MxAt.init {len : Nat} {dat : Nat → UInt8} {w5 w7 : World} {yb : Nat} {v9 v10 : Value} (f : Fr [] w5 w7) (hy : yb < w5.heap.size) (hB : ∃ l, Blk w7 yb 5 l ∧ ∀ y, y < len → l[y]? = some (U8 (dat y))) (h9 : w7.ownsRow w5.heap.size 66 5 v9 0 []) (h10 : w7.ownsRow w5.heap.size 55 3 v10 0 []) :
    MxAt w5.heap.size yb len dat w5 0 0 dat v9 v10 w7 :=
  ⟨fun _ => 0, fun _ => dat, fun _ => ⟨0, 0, 0, 0, 0, fun _ => 0⟩, fun _ => ⟨0, 0, fun _ => 0⟩, fun _ => .nilIface, fun _ => .nilIface, ⟨rfl, rfl, fun _ h => absurd h (Nat.not_lt_zero _), Nat.zero_le _⟩, rfl, rfl, f.mono (by simp), hy, Nat.le_refl _, hB, h9, h10, fun _ h => absurd h (Nat.not_lt_zero _)⟩

theorem own_off {w : World} {base nb : Nat} {e : TypeId} {size n : Nat} {v : Value} {xs : List Value} (h : w.ownsRow base e size v n xs) (hn : nb < base) : nb ∉ v.ownBlock.toList := fun hm => by
  have := (h.lt nb (by simpa using hm)).1
  omega
theorem own_on {w : World} {base nb : Nat} {e : TypeId} {size n : Nat} {v : Value} {xs : List Value} (h : w.ownsRow base e size v n xs) (hn : nb < base) : ∀ g, v.ownBlock = some g → g ∉ [nb] := fun g hg hm => by
  have := (h.lt g hg).1
  simp at hm
  omega

/-- Both rows have got one struct more; where the stream's bytes lie is left as it is till w10. -/
theorem MxAt.kept {b4 nb len k i : Nat} {dat d : Nat → UInt8} {w3 w : World} {v9 v10 : Value} (h : MxAt b4 nb len dat w3 k i d v9 v10 w) {w8 w9 w10 : World} (g9 : Fr v9.ownBlock.toList w w8) (f89 : Fr [] w8 w9) (g10 : Fr v10.ownBlock.toList w9 w10) :
    ∃ l, Blk w10 nb 5 l ∧ ∀ y, y < len → l[y]? = some (U8 (d y)) := by
  obtain ⟨at_, da, st, td, sv, wv, h1, h2, h3, h4, h5, h6, ⟨l, hl, hg⟩, h8, h8', h11⟩ := h
  exact ⟨l, ((hl.fr g9 (own_off h8 h5)).fr0 f89).fr g10 (own_off h8' h5), hg⟩

theorem MxAt.next {b4 nb len k i : Nat} {dat d : Nat → UInt8} {w3 w : World} {v9 v10 : Value} (h : MxAt b4 nb len dat w3 k i d v9 v10 w) {s : Stp} {i' : Nat} {d' : Nat → UInt8} {t : Tld} (hd : Does len s i d i' d' t) (hl : i' ≤ len) {v9' v10' dv uv : Value} {x9 x10 : List Value} {w8 w9 w10 w11 : World}
    (o9 : w.ownsRow b4 66 5 v9 k x9) (o10 : w.ownsRow b4 55 3 v10 k x10) (a9 : w8.ownsRow b4 66 5 v9' (k + 1) (x9 ++ (stpV s dv).toList)) (g9 : Fr v9.ownBlock.toList w w8) (f89 : Fr [] w8 w9) (a10 : w10.ownsRow b4 55 3 v10' (k + 1) (x10 ++ [uv, .int .i64 (t.num : Nat), .int .i64 0])) (g10 : Fr v10.ownBlock.toList w9 w10)
    (g11 : Fr [nb] w10 w11) (hb : ∃ l, Blk w11 nb 5 l ∧ ∀ y, y < len → l[y]? = some (U8 (d' y))) (hs : SvIs w b4 dv s) (ho : w9.ownsRow b4 5 1 uv t.cnt (tab t.cnt (fun y => U8 (t.x y)))) : MxAt b4 nb len dat w3 (k + 1) i' d' v9' v10' w11 := by
  have hnb : nb < b4 := by
    obtain ⟨_, _, _, _, _, _, _, _, _, _, h5, _⟩ := h
    exact h5
  have o10_9 := own_fr0 (own_fr o10 g9 (own_sep o10 o9 (by decide))) f89
  have a9_9 := own_fr0 a9 f89
  have a9_10 := own_fr a9_9 g10 (own_sep a9_9 o10_9 (by decide))
  have a9_11 := own_fr a9_10 g11 (own_on a9_10 hnb)
  have a10_11 := own_fr a10 g11 (own_on a10 hnb)
  have ho_10 := own_fr ho g10 (own_sep ho o10_9 (by decide))
  have ho_11 := own_fr ho_10 g11 (own_on ho_10 hnb)
  have hf : Fr (nb :: (v9.ownBlock.toList ++ v10.ownBlock.toList)) w w11 :=
    (((g9.mono (ms' := nb :: (v9.ownBlock.toList ++ v10.ownBlock.toList)) (fun x hx => .inl (by simp at hx ⊢; simp [hx]))).trans0 f89).trans g10 (fun x hx => .inl (by simp at hx ⊢; simp [hx]))).trans g11 (fun x hx => .inl (by simp at hx ⊢; simp [hx]))
  have hs_11 : SvIs w11 b4 dv s := by
    rcases hs with hs | ⟨s1, s2⟩
    · exact .inl hs
    · have s3 := own_fr0 (own_fr s2 g9 (own_sep s2 o9 (by decide))) f89
      have s4 := own_fr s3 g10 (own_sep s3 o10_9 (by decide))
      exact .inr ⟨s1, own_fr s4 g11 (own_on s4 hnb)⟩
  exact h.step' hd hl hf (fun y hy => by simpa using hy) hb o9 o10 a9_11 a10_11 hs_11 ho_11

theorem MxAt.next0 {b4 nb len k i : Nat} {dat d : Nat → UInt8} {w3 w : World} {v9 v10 : Value} (h : MxAt b4 nb len dat w3 k i d v9 v10 w) {s : Stp} {i' : Nat} {t : Tld} (hd : Does len s i d i' d t) (hl : i' ≤ len) {v9' v10' uv : Value} {x9 x10 : List Value} {w8 w9 w10 : World}
    (o9 : w.ownsRow b4 66 5 v9 k x9) (o10 : w.ownsRow b4 55 3 v10 k x10) (a9 : w8.ownsRow b4 66 5 v9' (k + 1) (x9 ++ (stpV s (.slice none 0 0)).toList)) (g9 : Fr v9.ownBlock.toList w w8) (f89 : Fr [] w8 w9) (a10 : w10.ownsRow b4 55 3 v10' (k + 1) (x10 ++ [uv, .int .i64 (t.num : Nat), .int .i64 0])) (g10 : Fr v10.ownBlock.toList w9 w10)
    (hs : s.m = 0) (ho : w9.ownsRow b4 5 1 uv t.cnt (tab t.cnt (fun y => U8 (t.x y)))) : MxAt b4 nb len dat w3 (k + 1) i' d v9' v10' w10 :=
  h.next hd hl o9 o10 a9 g9 f89 a10 g10 (Fr.refl _ _) (h.kept g9 f89 g10) (.inl ⟨hs, rfl⟩) ho

theorem h_ex (n : Nat) : ∃ h : Nat, h < 4294967296 ∧ Value.int .u32 ((n : Int) * 2654435761 % 4294967296) = .int .u32 (h : Int) := by
  have h1 := Int.emod_nonneg ((n : Int) * 2654435761) (b := 4294967296) (by decide)
  have h2 := Int.emod_lt_of_pos ((n : Int) * 2654435761) (b := 4294967296) (by decide)
  generalize (n : Int) * 2654435761 % 4294967296 = x at *
  obtain ⟨h, rfl⟩ := Int.eq_ofNat_of_zero_le h1
  exact ⟨h, by omega, rfl⟩

theorem stp_one (a b c e : Int) (v1 : Option Addr) (m1 c1 : Nat) : ∀ u ∈ (#[Value.int .i64 a, .int .i64 b, .int .i64 c, .int .i64 e, .slice v1 m1 c1] : Array Value).toList, u.oneCell' = true := by
  intro u hu
  simp only [List.mem_cons, List.not_mem_nil, or_false] at hu
  rcases hu with rfl | rfl | rfl | rfl | rfl <;> rfl
theorem tld_one (v1 : Option Addr) (m1 c1 : Nat) (a b : Int) : ∀ u ∈ (#[Value.slice v1 m1 c1, .int .i64 a, .int .i64 b] : Array Value).toList, u.oneCell' = true := by
  intro u hu
  simp only [List.mem_cons, List.not_mem_nil, or_false] at hu
  rcases hu with rfl | rfl | rfl <;> rfl

theorem own_u8_snoc {w : World} {base q : Nat} {v : Value} {x : Nat → UInt8} {z : Int} (h : w.ownsRow base 5 1 v (q + 1) (tab q (fun y => U8 (x y)) ++ [.int .u8 z])) (h0 : 0 ≤ z) (h1 : z < 256) : ∃ x' : Nat → UInt8, w.ownsRow base 5 1 v (q + 1) (tab (q + 1) (fun y => U8 (x' y))) := by
  obtain ⟨b, hb⟩ := u8_any z h0 h1
  refine ⟨insI q x b, ?_⟩
  rw [tab_snoc, tab_congr (g' := fun y => U8 (x y)) (fun i hi => by rw [insI_ne _ _ _ _ (by omega)]), insI_self, ← hb]
  exact h

/-- Steps over a written file of nodes. -/
theorem steps_wrote {base lb N : Nat} {w : World} {nd : Nat → Nd} {dv : Nat → Value} {t : NT} (h : NodesOK base lb N w nd dv t) (L : Lay) (hL : L.nd = nd ∧ L.N = N) {F : Nat → UInt8} {fat mfat : Nat → Nat} {W : Nat → UInt8} (hW : Wrote L F fat mfat W) (hb : L.bytes ≤ 131072) (ob : Nat) (hB : Bts w ob L.bytes F)
    (hp : ∀ i, 65 ≤ i → i ≤ 90 → w.cell? ⟨2, i, none⟩ = some (.int .u8 160)) (h2w : 2 < w.heap.size) (ev : Value) (hev : w.cell? ⟨0, 0, none⟩ = some ev)
    (k0 e : Nat) (hk0 : k0 < N) (heN : t.order.getD k0 0 = e) (he : e < N) (hs : (nd e).stream = true) {b4 nb len k i : Nat} {dat d : Nat → UInt8} {w3 : World} {v9 v10 : Value} (hln : (nd e).len = len) (hdt : (nd e).dat = dat) (hX : MxAt b4 nb len dat w3 k i d v9 v10 w) (hk : k ≤ 50) :
    Calls Tryd.prog 18 #[.slice (some ⟨ob, 0, none⟩) L.bytes L.bytes, .int .i64 (k0 : Nat), v9] w fun en w' => Fr [] w w' ∧ ∃ (v v2 : Value) (td : Nat → Tld) (wv : Nat → Value) (F' : Nat → UInt8), en = .returned (.tuple #[v, v2, .bool true]) ∧
      ToldIs w' w.heap.size v td k ∧ w'.ownsRow b4 55 3 v10 k (toldRow wv td k) ∧ (∀ j, j < k → w'.ownsRow b4 5 1 (wv j) (td j).cnt (tab (td j).cnt (fun y => U8 ((td j).x y)))) ∧ w'.ownsRow w.heap.size 5 1 v2 L.bytes (tab L.bytes (fun i => U8 (F' i))) ∧
      ∀ (L' : Lay) (F2 : Nat → UInt8) (fat' mfat' : Nat → Nat) (W' : Nat → UInt8), SameL L L' → (L'.nd e).dat = d → (∀ x, x ≠ e → (L'.nd x).dat = (L.nd x).dat) → Wrote L' F2 fat' mfat' W' → ∀ y, y < L.bytes → F2 y = F' y := by
  obtain ⟨hLO, hFO⟩ := h.file hL hW hb
  have heL : e < L.N := by rw [hL.2]; exact he
  have hN := hW.N_le hLO hb
  obtain ⟨mini, q, K, ch, off, g1, g2, g3⟩ := hW.str2 hLO hb e heL (by rw [hL.1]; exact hs)
  have gA := hW.strAp hLO hb heL g1 g3
  have hq : 0 < q := by
    have hsz : 0 < L.sz := by rcases L.sz_or with ⟨h, _⟩ | ⟨h, _⟩ <;> omega
    rcases g3 with ⟨_, h, _⟩ | ⟨_, h, _⟩ <;> omega
  have hch := (hW.ent_flds hLO hb e (by omega) heL).start
  rw [g2] at hch
  have hT : ∀ (L' : Lay) (F2 : Nat → UInt8) (fat' mfat' : Nat → Nat) (W' : Nat → UInt8), SameL L L' → (∀ x, x ≠ e → (L'.nd x).dat = (L.nd x).dat) → Wrote L' F2 fat' mfat' W' → _ := fun L' F2 fat' mfat' W' hS hd hW' => hW.turned hLO hb hS heL (by rw [hL.1]; exact hs) hd g1 g3 hW'
  have hlen9 := hLO.len e heL
  rw [hL.1] at g1 gA hlen9
  rw [hln] at g1 gA hlen9
  rw [hdt] at g1
  obtain ⟨at_, da, st, td, sv, wv, m1, m2, m3, m4, m5, m6, m7, m8, m9, m10⟩ := hX
  have hEP : (L.EP e).size = (len : Nat) := by
    unfold Lay.EP
    rw [if_pos heL, hL.1]
    show (if (nd e).stream = true then (((nd e).len : Nat) : Int) else 0) = _
    rw [if_pos hs, hln]
  have hv9 : ∃ la c lb', v9 = .slice la k c ∧ (0 < k → la = some ⟨lb', 0, none⟩) ∧ k ≤ c ∧ c ≤ 9223372036854775807 ∧ ∀ x, x < k → ∀ j, j < 5 → w.cell? ⟨lb', x * 5 + j, none⟩ = (stpV (st x) (sv x))[j]? := by
    rcases Nat.eq_zero_or_pos k with h0 | h0
    · subst h0
      rcases m8.2 with ⟨rfl, _⟩ | ⟨g, cap, cur, rfl, _, _, _, hc, _⟩
      · exact ⟨none, 0, 0, rfl, fun h => absurd h (by omega), by omega, by omega, fun x hx => absurd hx (by omega)⟩
      · exact ⟨_, cap, g, rfl, fun _ => rfl, by omega, by simpa [maxLen] using hc, fun x hx => absurd hx (by omega)⟩
    · obtain ⟨b, c, l, e1, _, hbl, hg, hc1, hc2, _⟩ := own_blkS m8 h0
      refine ⟨_, c, b, e1, fun _ => rfl, hc1, hc2, fun x hx j hj => ?_⟩
      rw [hbl.cell, hg (x * 5 + j) (by omega), stepsRow_get sv st k x j hx hj]
  obtain ⟨la, c, lb', rfl, hla, hc1, hc2, hsl⟩ := hv9
  refine (steps_any ob 0 L.bytes L.bytes L.sz (L.cnt 0) L.mn (L.cnt 2) F (L.chn 0) (L.chn 1) (L.chn 2) L.EP t.toTr w (fun i hi => by rw [Nat.zero_add]; exact (Blk.cell hB i).trans (tab_get _ _ _ hi)) hFO hb hp h2w ev hev k0 len (by rw [NT.toTr_order, h.tree.len]; exact hk0)
    (by rw [NT.toTr_order, heN]; exact hEP) (by omega) mini q K ch off dat g1 hq (by rw [NT.toTr_order, heN]; exact hch) gA lb' k c la st sv hla hk ⟨hc1, hc2⟩ hsl (fun x hx => (m10 x hx).1.dv) at_ da td m1.z m1.d m1.s).mono ?_
  rintro en w' ⟨hf, v, v2, F', rfl, r1, r2, r3⟩
  refine ⟨hf, v, v2, td, wv, F', rfl, r1, own_fr0 m9 hf, fun j hj => own_fr0 (m10 j hj).2 hf, r2, fun L' F2 fat' mfat' W' hS hd hd2 hW' => ?_⟩
  have h2 := hT L' F2 fat' mfat' W' hS hd2 hW'
  rw [hL.1, hln] at h2
  rw [m3] at r3
  exact turned_same r3 h2 hd
end Go.Proofs.YtokpomdfgbbhlaaDoor

/- The switch of FnMixed's loop: its code; what it hands on. -/
namespace Go.Proofs.YtokpomdfgbbhlaaDoor
open Go Go.RowKit Go.Maps

/-- Block n itself. -/
def atBlk (n : Nat) : Code → Option Code
  | .block id c => if id = n then some (.block id c) else atBlk n c
  | .seq a b => match atBlk n a with
    | some c => some c
    | none => atBlk n b
  | .cond _ a b => match atBlk n a with
    | some c => some c
    | none => atBlk n b
  | .loop c => atBlk n c
  | .scope c => atBlk n c
  | _ => none
noncomputable def sw7 : Code := (Tryd.f7.body.bind (atBlk 2)).getD .skip

/-- What the switch hands on: the steps so far, or one more. -/
def SwInv (b5 yb len : Nat) (dat : Nat → UInt8) (w5 : World) (k : Nat) (v20 v21 v22 : Value) (w : World) : Prop :=
  ∃ (k2 i2 : Nat) (d2 : Nat → UInt8), k2 ≤ k + 1 ∧ v20 = .int .i64 i2 ∧ MxAt b5 yb len dat w5 k2 i2 d2 v21 v22 w
end Go.Proofs.YtokpomdfgbbhlaaDoor

/- FnMixed, the switch: a step that reads. -/
namespace Go.Proofs.YtokpomdfgbbhlaaDoor
open Go Go.RowKit Go.Maps

set_option maxRecDepth 100000 in
set_option maxHeartbeats 8000000 in
theorem sw_a (fr0 fr1 fr2 fr3 fr4 fr5 fr6 fr7 fr8 fr9 fr10 fr11 fr12 fr13 fr14 fr15 fr16 fr17 fr23 fr28 fr29 fr30 fr31 fr32 fr33 fr34 fr35 fr36 fr37 fr38 fr39 fr40 fr41 fr42 fr43 fr44 fr45 fr46 fr47 fr48 fr49 fr50 fr51 fr52 fr53 fr54 fr55 fr56 fr57 fr58 fr59 fr60 fr61 fr62 fr63 fr64 fr65 fr66 fr67 fr68 fr69 fr70 fr71 fr72 fr73 fr74 fr75 fr76 fr77 fr78 fr79 fr80 fr81 fr82 fr83 fr84 fr85 fr86 fr87 fr88 fr89 fr90 fr91 fr92 fr93 fr94 fr95 fr96 fr97 fr98 fr99 fr100 fr101 fr102 fr103 fr104 fr105 fr106 fr107 fr108 fr109 fr110 fr111 fr112 fr113 fr114 fr115 fr116 fr117 fr118 fr119 fr120 fr121 fr123 fr124 fr125 fr126 fr127 fr128 fr129 fr130 fr131 fr132 fr133 fr134 fr135 fr136 fr137 fr138 fr139 fr140 fr141 fr142 fr143 fr144 fr145 fr146 fr147 fr148 fr149 fr150 fr151 fr152 fr153 fr154 fr155 fr156 fr157 fr158 fr159 fr160 fr161 fr162 fr163 fr164 fr165 fr166 fr167 fr168 fr169 fr170 fr171 fr172 fr173 fr174 fr175 fr176 fr177 fr178 fr179 fr180 fr181 fr182 fr183 fr184 fr185 fr186 fr187 fr188 fr189 fr190 fr191 fr192 fr193 fr194 fr195 fr196 fr197 fr198 fr199 fr200 fr201 fr202 fr203 fr204 fr205 fr206 fr207 fr208 fr209 fr210 fr211 fr212 fr213 fr214 fr215 fr216 fr217 fr218 fr219 fr220 fr221 fr222 fr223 fr224 fr225 fr226 fr227 fr228 fr229 fr230 fr231 fr232 fr233 fr234 fr235 fr236 fr237 fr238 fr239 fr240 fr241 fr242 fr243 fr244 fr245 fr246 fr247 fr248 fr249 fr250 fr251 fr252 fr253 fr254 fr255 fr256 fr257 fr258 fr259 fr260 fr261 fr262 fr263 fr264 fr265 fr266 fr267 fr268 fr269 fr270 fr271 fr272 fr273 fr274 fr275 fr276 fr277 fr278 fr279 fr280 fr281 fr282 fr283 fr284 fr285 fr286 fr287 fr288 fr289 fr290 fr291 fr292 fr293 fr294 fr295 fr296 fr297 fr298 fr299 fr300 fr301 fr302 fr303 fr304 fr305 fr306 fr307 fr308 fr309 fr310 fr311 fr312 fr313 fr314 fr315 fr316 fr317 fr318 fr319 fr320 fr321 fr322 fr323 fr324 fr325 fr326 fr327 fr328 fr329 fr330 fr331 : Value) (b5 yb yc len k i rc tc n h p y r : Nat) (ra ta : Option Addr) (dat d : Nat → UInt8) (w5 wr : World) (Q : Exit → Act → World → Prop) (hM : MxAt b5 yb len dat w5 k i d (.slice ra k rc) (.slice ta k tc) wr) (hwsz : b5 ≤ wr.heap.size) (hyl : yb < b5) (hk50 : k ≤ 50) (hlen9 : len ≤ 9000) (h0 : ¬ len = 0) (hyc1 : len ≤ yc) (hyc2 : yc ≤ 9223372036854775807) (hh : h < 4294967296) (hp : p < len) (hy1 : 1 ≤ y) (hy2 : y ≤ 200) (hrnI : (n : Int) % 7 = (r : Int)) (hr7 : r < 7) (hr2 : r < 2) (hQn : ∀ (yy20 yy21 yy22 yy26 yy27 yy28 yy29 yy30 yy122 yy123 yy124 yy125 yy126 yy127 yy128 yy129 yy130 yy131 yy132 yy133 yy134 yy135 yy136 yy137 yy138 yy139 yy140 yy141 yy142 yy143 yy144 yy145 yy146 yy147 yy148 yy149 yy150 yy151 yy152 yy153 yy154 yy155 yy156 yy157 yy158 yy159 yy160 yy161 yy162 yy163 yy164 yy165 yy166 yy167 yy168 yy169 yy170 yy171 yy172 yy173 yy174 yy175 yy176 yy177 yy178 yy179 yy180 yy181 yy182 yy183 yy184 yy185 yy186 yy187 yy188 yy189 yy190 yy191 yy192 yy193 yy194 yy195 yy196 yy197 yy198 yy199 yy200 yy201 yy202 yy203 yy204 yy205 yy206 yy207 yy208 yy209 yy210 yy211 yy212 yy213 yy214 yy215 yy216 yy217 yy218 yy219 yy220 yy221 yy222 yy223 yy224 yy225 yy226 yy227 yy228 yy229 yy230 yy231 yy232 yy233 yy234 yy235 yy236 yy237 yy238 yy239 yy240 yy241 yy242 yy243 yy244 yy245 yy246 yy247 yy248 yy249 yy250 yy251 yy252 yy253 yy254 yy255 yy256 yy257 yy258 yy259 yy260 yy261 yy262 yy263 yy264 yy265 yy266 yy267 yy268 : Value) (w2 : World), SwInv b5 yb len dat w5 k yy20 yy21 yy22 w2 → Q Exit.normal ⟨#[fr0, fr1, fr2, fr3, fr4, fr5, fr6, fr7, fr8, fr9, fr10, fr11, fr12, fr13, fr14, fr15, fr16, fr17, (.slice (some ⟨yb, 0, none⟩) len yc), (.int .i64 len), yy20, yy21, yy22, fr23, (.int .u32 n), (.int .u32 h), yy26, yy27, yy28, yy29, yy30, fr31, fr32, fr33, fr34, fr35, fr36, fr37, fr38, fr39, fr40, fr41, fr42, fr43, fr44, fr45, fr46, fr47, fr48, fr49, fr50, fr51, fr52, fr53, fr54, fr55, fr56, fr57, fr58, fr59, fr60, fr61, fr62, fr63, fr64, fr65, fr66, fr67, fr68, fr69, fr70, fr71, fr72, fr73, fr74, fr75, fr76, fr77, fr78, fr79, fr80, fr81, fr82, fr83, fr84, fr85, fr86, fr87, fr88, fr89, fr90, fr91, fr92, fr93, fr94, fr95, fr96, fr97, fr98, fr99, fr100, fr101, fr102, fr103, fr104, fr105, fr106, fr107, fr108, fr109, fr110, fr111, fr112, fr113, fr114, fr115, fr116, fr117, fr118, fr119, fr120, fr121, yy122, yy123, yy124, yy125, yy126, yy127, yy128, yy129, yy130, yy131, yy132, yy133, yy134, yy135, yy136, yy137, yy138, yy139, yy140, yy141, yy142, yy143, yy144, yy145, yy146, yy147, yy148, yy149, yy150, yy151, yy152, yy153, yy154, yy155, yy156, yy157, yy158, yy159, yy160, yy161, yy162, yy163, yy164, yy165, yy166, yy167, yy168, yy169, yy170, yy171, yy172, yy173, yy174, yy175, yy176, yy177, yy178, yy179, yy180, yy181, yy182, yy183, yy184, yy185, yy186, yy187, yy188, yy189, yy190, yy191, yy192, yy193, yy194, yy195, yy196, yy197, yy198, yy199, yy200, yy201, yy202, yy203, yy204, yy205, yy206, yy207, yy208, yy209, yy210, yy211, yy212, yy213, yy214, yy215, yy216, yy217, yy218, yy219, yy220, yy221, yy222, yy223, yy224, yy225, yy226, yy227, yy228, yy229, yy230, yy231, yy232, yy233, yy234, yy235, yy236, yy237, yy238, yy239, yy240, yy241, yy242, yy243, yy244, yy245, yy246, yy247, yy248, yy249, yy250, yy251, yy252, yy253, yy254, yy255, yy256, yy257, yy258, yy259, yy260, yy261, yy262, yy263, yy264, yy265, yy266, yy267, yy268, fr269, fr270, fr271, fr272, fr273, fr274, fr275, fr276, fr277, fr278, fr279, fr280, fr281, fr282, fr283, fr284, fr285, fr286, fr287, fr288, fr289, fr290, fr291, fr292, fr293, fr294, fr295, fr296, fr297, fr298, fr299, fr300, fr301, fr302, fr303, fr304, fr305, fr306, fr307, fr308, fr309, fr310, fr311, fr312, fr313, fr314, fr315, fr316, fr317, fr318, fr319, fr320, fr321, fr322, fr323, fr324, fr325, fr326, fr327, fr328, fr329, fr330, fr331], []⟩ w2) (hQe : ∀ (yy20 yy21 yy22 yy26 yy27 yy28 yy29 yy30 yy122 yy123 yy124 yy125 yy126 yy127 yy128 yy129 yy130 yy131 yy132 yy133 yy134 yy135 yy136 yy137 yy138 yy139 yy140 yy141 yy142 yy143 yy144 yy145 yy146 yy147 yy148 yy149 yy150 yy151 yy152 yy153 yy154 yy155 yy156 yy157 yy158 yy159 yy160 yy161 yy162 yy163 yy164 yy165 yy166 yy167 yy168 yy169 yy170 yy171 yy172 yy173 yy174 yy175 yy176 yy177 yy178 yy179 yy180 yy181 yy182 yy183 yy184 yy185 yy186 yy187 yy188 yy189 yy190 yy191 yy192 yy193 yy194 yy195 yy196 yy197 yy198 yy199 yy200 yy201 yy202 yy203 yy204 yy205 yy206 yy207 yy208 yy209 yy210 yy211 yy212 yy213 yy214 yy215 yy216 yy217 yy218 yy219 yy220 yy221 yy222 yy223 yy224 yy225 yy226 yy227 yy228 yy229 yy230 yy231 yy232 yy233 yy234 yy235 yy236 yy237 yy238 yy239 yy240 yy241 yy242 yy243 yy244 yy245 yy246 yy247 yy248 yy249 yy250 yy251 yy252 yy253 yy254 yy255 yy256 yy257 yy258 yy259 yy260 yy261 yy262 yy263 yy264 yy265 yy266 yy267 yy268 : Value) (w2 : World), SwInv b5 yb len dat w5 k yy20 yy21 yy22 w2 → Q (Exit.exit 1) ⟨#[fr0, fr1, fr2, fr3, fr4, fr5, fr6, fr7, fr8, fr9, fr10, fr11, fr12, fr13, fr14, fr15, fr16, fr17, (.slice (some ⟨yb, 0, none⟩) len yc), (.int .i64 len), yy20, yy21, yy22, fr23, (.int .u32 n), (.int .u32 h), yy26, yy27, yy28, yy29, yy30, fr31, fr32, fr33, fr34, fr35, fr36, fr37, fr38, fr39, fr40, fr41, fr42, fr43, fr44, fr45, fr46, fr47, fr48, fr49, fr50, fr51, fr52, fr53, fr54, fr55, fr56, fr57, fr58, fr59, fr60, fr61, fr62, fr63, fr64, fr65, fr66, fr67, fr68, fr69, fr70, fr71, fr72, fr73, fr74, fr75, fr76, fr77, fr78, fr79, fr80, fr81, fr82, fr83, fr84, fr85, fr86, fr87, fr88, fr89, fr90, fr91, fr92, fr93, fr94, fr95, fr96, fr97, fr98, fr99, fr100, fr101, fr102, fr103, fr104, fr105, fr106, fr107, fr108, fr109, fr110, fr111, fr112, fr113, fr114, fr115, fr116, fr117, fr118, fr119, fr120, fr121, yy122, yy123, yy124, yy125, yy126, yy127, yy128, yy129, yy130, yy131, yy132, yy133, yy134, yy135, yy136, yy137, yy138, yy139, yy140, yy141, yy142, yy143, yy144, yy145, yy146, yy147, yy148, yy149, yy150, yy151, yy152, yy153, yy154, yy155, yy156, yy157, yy158, yy159, yy160, yy161, yy162, yy163, yy164, yy165, yy166, yy167, yy168, yy169, yy170, yy171, yy172, yy173, yy174, yy175, yy176, yy177, yy178, yy179, yy180, yy181, yy182, yy183, yy184, yy185, yy186, yy187, yy188, yy189, yy190, yy191, yy192, yy193, yy194, yy195, yy196, yy197, yy198, yy199, yy200, yy201, yy202, yy203, yy204, yy205, yy206, yy207, yy208, yy209, yy210, yy211, yy212, yy213, yy214, yy215, yy216, yy217, yy218, yy219, yy220, yy221, yy222, yy223, yy224, yy225, yy226, yy227, yy228, yy229, yy230, yy231, yy232, yy233, yy234, yy235, yy236, yy237, yy238, yy239, yy240, yy241, yy242, yy243, yy244, yy245, yy246, yy247, yy248, yy249, yy250, yy251, yy252, yy253, yy254, yy255, yy256, yy257, yy258, yy259, yy260, yy261, yy262, yy263, yy264, yy265, yy266, yy267, yy268, fr269, fr270, fr271, fr272, fr273, fr274, fr275, fr276, fr277, fr278, fr279, fr280, fr281, fr282, fr283, fr284, fr285, fr286, fr287, fr288, fr289, fr290, fr291, fr292, fr293, fr294, fr295, fr296, fr297, fr298, fr299, fr300, fr301, fr302, fr303, fr304, fr305, fr306, fr307, fr308, fr309, fr310, fr311, fr312, fr313, fr314, fr315, fr316, fr317, fr318, fr319, fr320, fr321, fr322, fr323, fr324, fr325, fr326, fr327, fr328, fr329, fr330, fr331], []⟩ w2) :
    Code.wp Tryd.prog sw7 Q ⟨#[fr0, fr1, fr2, fr3, fr4, fr5, fr6, fr7, fr8, fr9, fr10, fr11, fr12, fr13, fr14, fr15, fr16, fr17, (.slice (some ⟨yb, 0, none⟩) len yc), (.int .i64 len), (.int .i64 i), (.slice ra k rc), (.slice ta k tc), fr23, (.int .u32 n), (.int .u32 h), (.int .i64 p), (.int .i64 y), fr28, fr29, fr30, fr31, fr32, fr33, fr34, fr35, fr36, fr37, fr38, fr39, fr40, fr41, fr42, fr43, fr44, fr45, fr46, fr47, fr48, fr49, fr50, fr51, fr52, fr53, fr54, fr55, fr56, fr57, fr58, fr59, fr60, fr61, fr62, fr63, fr64, fr65, fr66, fr67, fr68, fr69, fr70, fr71, fr72, fr73, fr74, fr75, fr76, fr77, fr78, fr79, fr80, fr81, fr82, fr83, fr84, fr85, fr86, fr87, fr88, fr89, fr90, fr91, fr92, fr93, fr94, fr95, fr96, fr97, fr98, fr99, fr100, fr101, fr102, fr103, fr104, fr105, fr106, fr107, fr108, fr109, fr110, fr111, fr112, fr113, fr114, fr115, fr116, fr117, fr118, fr119, fr120, fr121, (.int .u32 r), fr123, fr124, fr125, fr126, fr127, fr128, fr129, fr130, fr131, fr132, fr133, fr134, fr135, fr136, fr137, fr138, fr139, fr140, fr141, fr142, fr143, fr144, fr145, fr146, fr147, fr148, fr149, fr150, fr151, fr152, fr153, fr154, fr155, fr156, fr157, fr158, fr159, fr160, fr161, fr162, fr163, fr164, fr165, fr166, fr167, fr168, fr169, fr170, fr171, fr172, fr173, fr174, fr175, fr176, fr177, fr178, fr179, fr180, fr181, fr182, fr183, fr184, fr185, fr186, fr187, fr188, fr189, fr190, fr191, fr192, fr193, fr194, fr195, fr196, fr197, fr198, fr199, fr200, fr201, fr202, fr203, fr204, fr205, fr206, fr207, fr208, fr209, fr210, fr211, fr212, fr213, fr214, fr215, fr216, fr217, fr218, fr219, fr220, fr221, fr222, fr223, fr224, fr225, fr226, fr227, fr228, fr229, fr230, fr231, fr232, fr233, fr234, fr235, fr236, fr237, fr238, fr239, fr240, fr241, fr242, fr243, fr244, fr245, fr246, fr247, fr248, fr249, fr250, fr251, fr252, fr253, fr254, fr255, fr256, fr257, fr258, fr259, fr260, fr261, fr262, fr263, fr264, fr265, fr266, fr267, fr268, fr269, fr270, fr271, fr272, fr273, fr274, fr275, fr276, fr277, fr278, fr279, fr280, fr281, fr282, fr283, fr284, fr285, fr286, fr287, fr288, fr289, fr290, fr291, fr292, fr293, fr294, fr295, fr296, fr297, fr298, fr299, fr300, fr301, fr302, fr303, fr304, fr305, fr306, fr307, fr308, fr309, fr310, fr311, fr312, fr313, fr314, fr315, fr316, fr317, fr318, fr319, fr320, fr321, fr322, fr323, fr324, fr325, fr326, fr327, fr328, fr329, fr330, fr331], []⟩ wr := by
  conv => arg 2; whnf
  conv => arg 4; dsimp only
  obtain ⟨hi9, hfr5, hyB, ⟨x9, ho9⟩, ⟨x10, ho10⟩⟩ := hM.rows
  have HR := Lib.hid (And.intro hM (And.intro ho9 (And.intro ho10 (And.intro hyB hfr5))))
  clear hM ho9 ho10 hyB hfr5
  go_upto_if 180 with (fail)
  go_cut [180] from 180 to 182 (fun s180 w' => wr = w' ∧ ∃ b : Bool, b = decide (r < 2) ∧ s180 = .bool b)
  case first =>
    by_cases hr0 : r = 0
    · subst hr0
      go_wp2_with fail
      go_meet
      case rel => exact ⟨rfl, true, by simp, rfl⟩
    · by_cases hr1 : r = 1
      · subst hr1
        go_wp2_with fail
        go_meet
        case rel => exact ⟨rfl, true, by simp, rfl⟩
      · exfalso; omega
  case rest =>
  obtain ⟨rfl, b, hb, rfl⟩ := hcut
  obtain rfl : b = true := by rw [hb]; simp [hr2]
  clear hb
  go_upto_region 37 with (fail)
  obtain ⟨cnt, hcnt⟩ : ∃ cnt, cnt = min y (len - i) := ⟨_, rfl⟩
  have hwiy : IntKind.i64.wrap ((i : Int) + (y : Int)) = (i : Int) + (y : Int) := IntWalk.i64_in _ (by omega)
  have hiyc : (i : Int) ≤ (yc : Int) := by omega
  have hilen : (i : Int) ≤ (len : Int) := by omega
  have hlyc : (len : Int) ≤ (yc : Int) := by omega
  have HCNT := Lib.hid hcnt
  clear hcnt
  go_cut [28] from 183 to 190 (fun s28 w' => wr = w' ∧ ∃ pa pc, s28 = .slice pa cnt pc ∧ (0 < cnt → pa = some ⟨yb, i, none⟩))
  case first =>
    by_cases hA : len ≤ i + y
    · have hAI : (len : Int) ≤ (i : Int) + (y : Int) := by omega
      by_cases hE : yc = i
      · obtain rfl : len = i := by omega
        have hc0 := Lib.hid (show cnt = 0 by have := HCNT.out; omega)
        subst hE
        go_wp2_with fail
        go_meet
        case rel => exact ⟨rfl, _, _, by rw [hc0.out], fun h => by have := hc0.out; omega⟩
      · have hcE := Lib.hid (show len - i = cnt by have := HCNT.out; omega)
        go_wp2_with fail
        go_meet
        case rel => exact ⟨rfl, _, _, by rw [hcE.out], fun _ => rfl⟩
    · have hAI : (i : Int) + (y : Int) < (len : Int) := by omega
      have hAI2 : (i : Int) + (y : Int) ≤ (yc : Int) := by omega
      have hE : ¬ yc = i := by omega
      have hcE := Lib.hid (show y = cnt by have := HCNT.out; omega)
      go_wp2_with fail
      go_meet
      case rel => exact ⟨rfl, _, _, by rw [hcE.out], fun _ => rfl⟩
  case rest =>
  obtain ⟨rfl, pa, pc, rfl, hpa⟩ := hcut
  have HPA := Lib.hid hpa
  clear hpa hwiy hiyc hilen hlyc
  go_upto_if 194 with (fail)
  go_cut [27] from 191 to 196 (fun s27 w' => wr = w' ∧ s27 = .int .i64 cnt)
  case first =>
    by_cases hcy : cnt < y
    · have hcyI : (cnt : Int) < (y : Int) := by omega
      go_wp2_with fail
      go_meet
      case rel => exact ⟨rfl, rfl⟩
    · have hcyI : ¬ (cnt : Int) < (y : Int) := by omega
      have hcyE := Lib.hid (show y = cnt by have := HCNT.out; omega)
      go_wp2_with fail
      go_meet
      case rel => exact ⟨rfl, by rw [hcyE.out]⟩
  case rest =>
  obtain ⟨rfl, rfl⟩ := hcut
  by_cases hc0 : cnt = 0
  · have hc0I : ((cnt : Int) == 0) = true := by simp; omega
    go_wp2_with fail
    first | apply hQn | apply hQe | skip
    exact ⟨k, i, d, by omega, rfl, HR.out.1⟩
  have hc0I : ((cnt : Int) == 0) = false := by simp; omega
  have hcl : i + cnt ≤ len := by have := HCNT.out; omega
  have hcnt200 : cnt ≤ 200 := by have := HCNT.out; omega
  obtain rfl := HPA.out (by omega)
  have hby : ∀ z, z < cnt → wr.cell? ⟨yb, i + z, none⟩ = some (U8 (d (i + z))) := by
    obtain ⟨l, hl1, hl2⟩ := HR.out.2.2.2.1
    exact fun z hz => (hl1.cell _).trans (hl2 _ (by omega))
  have HBY := Lib.hid hby
  clear hby
  go_wp2_with (at_builtin; (refine wpList_appS rfl (.tmp 199) (.tmp 202) 62 rfl 66 5 56 Tryd.underlying62 info66 (by decide) (by decide) b5 (.slice ra k rc) k x9 rfl HR.out.2.1 #[.int .i64 0, .int .i64 (cnt : Nat), .int .i64 0, .int .i64 0, .slice none 0 0] rfl rfl (stp_one _ _ _ _ _ _ _) (by omega) hwsz ?_))
  intro v9 w8 a9 g9
  obtain ⟨ra', rc', rfl⟩ := own_slice a9
  have hs8 : b5 ≤ w8.heap.size := by have := g9.size; omega
  have hby8 : ∀ z, z < cnt → w8.cell? ⟨yb, i + z, none⟩ = some (U8 (d (i + z))) := fun z hz => g9.cell (own_off HR.out.2.1 hyl) (HBY.out z hz)
  have HA9 := Lib.hid (And.intro a9 g9)
  have HB8 := Lib.hid hby8
  clear a9 g9 hby8
  go_wp2_with (at_builtin; (refine wpList_appB rfl (.tmp 205) (.tmp 206) rfl b5 (.slice (some ⟨w8.heap.size, 0, none⟩) 0 0) rfl (own_lit0 w8 5 _ hs8) yb i cnt pc (fun z => d (i + z)) rfl (fun z hz => ((Fr.refl [] w8).alloc _).cell0 (HB8.out z hz)) (by omega) (by simp; omega) ?_))
  intro v5 w9 hB9 gB
  obtain ⟨ba, bc, rfl⟩ := own_slice hB9
  have f89 : Fr [] w8 w9 := ((Fr.refl [] w8).alloc _).trans gB (by simp [Value.ownBlock])
  have o10 := own_fr0 (own_fr HR.out.2.2.1 HA9.out.2 (own_sep HR.out.2.2.1 HR.out.2.1 (by decide))) f89
  have hs9 : b5 ≤ w9.heap.size := by have := f89.size; omega
  have HB9 := Lib.hid (And.intro hB9 f89)
  have HO10 := Lib.hid o10
  clear hB9 gB f89 o10
  go_wp2_with (at_builtin; (refine wpList_appS rfl (.tmp 204) (.tmp 210) 51 rfl 55 3 40 Tryd.underlying51 info55 (by decide) (by decide) b5 (.slice ta k tc) k x10 rfl HO10.out #[.slice ba cnt bc, .int .i64 (cnt : Nat), .int .i64 0] rfl rfl (tld_one _ _ _ _ _) (by omega) hs9 ?_))
  intro v10 w10 a10 g10
  obtain ⟨ta', tc', rfl⟩ := own_slice a10
  have HA10 := Lib.hid (And.intro a10 g10)
  have hwic : IntKind.i64.wrap ((i : Int) + (cnt : Int)) = (i : Int) + (cnt : Int) := IntWalk.i64_in _ (by omega)
  clear a10 g10
  go_wp2_with fail
  first | apply hQn | apply hQe | skip
  refine ⟨k + 1, i + cnt, d, by omega, by go_num, ?_⟩
  exact HR.out.1.next0 (s := ⟨0, cnt, 0, 0, 0, fun _ => 0⟩) (t := ⟨cnt, cnt, fun z => d (i + z)⟩) (.read i cnt d (by omega) hcnt200 hcl) hcl HR.out.2.1 HR.out.2.2.1 HA9.out.1 HA9.out.2 HB9.out.2 HA10.out.1 HA10.out.2 rfl HB9.out.1
end Go.Proofs.YtokpomdfgbbhlaaDoor

/- FnMixed, the switch: a step that seeks from the beginning. -/
namespace Go.Proofs.YtokpomdfgbbhlaaDoor
open Go Go.RowKit Go.Maps

set_option maxRecDepth 100000 in
set_option maxHeartbeats 8000000 in
theorem sw_b (fr0 fr1 fr2 fr3 fr4 fr5 fr6 fr7 fr8 fr9 fr10 fr11 fr12 fr13 fr14 fr15 fr16 fr17 fr23 fr28 fr29 fr30 fr31 fr32 fr33 fr34 fr35 fr36 fr37 fr38 fr39 fr40 fr41 fr42 fr43 fr44 fr45 fr46 fr47 fr48 fr49 fr50 fr51 fr52 fr53 fr54 fr55 fr56 fr57 fr58 fr59 fr60 fr61 fr62 fr63 fr64 fr65 fr66 fr67 fr68 fr69 fr70 fr71 fr72 fr73 fr74 fr75 fr76 fr77 fr78 fr79 fr80 fr81 fr82 fr83 fr84 fr85 fr86 fr87 fr88 fr89 fr90 fr91 fr92 fr93 fr94 fr95 fr96 fr97 fr98 fr99 fr100 fr101 fr102 fr103 fr104 fr105 fr106 fr107 fr108 fr109 fr110 fr111 fr112 fr113 fr114 fr115 fr116 fr117 fr118 fr119 fr120 fr121 fr123 fr124 fr125 fr126 fr127 fr128 fr129 fr130 fr131 fr132 fr133 fr134 fr135 fr136 fr137 fr138 fr139 fr140 fr141 fr142 fr143 fr144 fr145 fr146 fr147 fr148 fr149 fr150 fr151 fr152 fr153 fr154 fr155 fr156 fr157 fr158 fr159 fr160 fr161 fr162 fr163 fr164 fr165 fr166 fr167 fr168 fr169 fr170 fr171 fr172 fr173 fr174 fr175 fr176 fr177 fr178 fr179 fr180 fr181 fr182 fr183 fr184 fr185 fr186 fr187 fr188 fr189 fr190 fr191 fr192 fr193 fr194 fr195 fr196 fr197 fr198 fr199 fr200 fr201 fr202 fr203 fr204 fr205 fr206 fr207 fr208 fr209 fr210 fr211 fr212 fr213 fr214 fr215 fr216 fr217 fr218 fr219 fr220 fr221 fr222 fr223 fr224 fr225 fr226 fr227 fr228 fr229 fr230 fr231 fr232 fr233 fr234 fr235 fr236 fr237 fr238 fr239 fr240 fr241 fr242 fr243 fr244 fr245 fr246 fr247 fr248 fr249 fr250 fr251 fr252 fr253 fr254 fr255 fr256 fr257 fr258 fr259 fr260 fr261 fr262 fr263 fr264 fr265 fr266 fr267 fr268 fr269 fr270 fr271 fr272 fr273 fr274 fr275 fr276 fr277 fr278 fr279 fr280 fr281 fr282 fr283 fr284 fr285 fr286 fr287 fr288 fr289 fr290 fr291 fr292 fr293 fr294 fr295 fr296 fr297 fr298 fr299 fr300 fr301 fr302 fr303 fr304 fr305 fr306 fr307 fr308 fr309 fr310 fr311 fr312 fr313 fr314 fr315 fr316 fr317 fr318 fr319 fr320 fr321 fr322 fr323 fr324 fr325 fr326 fr327 fr328 fr329 fr330 fr331 : Value) (b5 yb yc len k i rc tc n h p y r : Nat) (ra ta : Option Addr) (dat d : Nat → UInt8) (w5 wr : World) (Q : Exit → Act → World → Prop) (hM : MxAt b5 yb len dat w5 k i d (.slice ra k rc) (.slice ta k tc) wr) (hwsz : b5 ≤ wr.heap.size) (hyl : yb < b5) (hk50 : k ≤ 50) (hlen9 : len ≤ 9000) (h0 : ¬ len = 0) (hyc1 : len ≤ yc) (hyc2 : yc ≤ 9223372036854775807) (hh : h < 4294967296) (hp : p < len) (hy1 : 1 ≤ y) (hy2 : y ≤ 200) (hrnI : (n : Int) % 7 = (r : Int)) (hr7 : r < 7) (hr : r = 2) (hQn : ∀ (yy20 yy21 yy22 yy26 yy27 yy28 yy29 yy30 yy122 yy123 yy124 yy125 yy126 yy127 yy128 yy129 yy130 yy131 yy132 yy133 yy134 yy135 yy136 yy137 yy138 yy139 yy140 yy141 yy142 yy143 yy144 yy145 yy146 yy147 yy148 yy149 yy150 yy151 yy152 yy153 yy154 yy155 yy156 yy157 yy158 yy159 yy160 yy161 yy162 yy163 yy164 yy165 yy166 yy167 yy168 yy169 yy170 yy171 yy172 yy173 yy174 yy175 yy176 yy177 yy178 yy179 yy180 yy181 yy182 yy183 yy184 yy185 yy186 yy187 yy188 yy189 yy190 yy191 yy192 yy193 yy194 yy195 yy196 yy197 yy198 yy199 yy200 yy201 yy202 yy203 yy204 yy205 yy206 yy207 yy208 yy209 yy210 yy211 yy212 yy213 yy214 yy215 yy216 yy217 yy218 yy219 yy220 yy221 yy222 yy223 yy224 yy225 yy226 yy227 yy228 yy229 yy230 yy231 yy232 yy233 yy234 yy235 yy236 yy237 yy238 yy239 yy240 yy241 yy242 yy243 yy244 yy245 yy246 yy247 yy248 yy249 yy250 yy251 yy252 yy253 yy254 yy255 yy256 yy257 yy258 yy259 yy260 yy261 yy262 yy263 yy264 yy265 yy266 yy267 yy268 : Value) (w2 : World), SwInv b5 yb len dat w5 k yy20 yy21 yy22 w2 → Q Exit.normal ⟨#[fr0, fr1, fr2, fr3, fr4, fr5, fr6, fr7, fr8, fr9, fr10, fr11, fr12, fr13, fr14, fr15, fr16, fr17, (.slice (some ⟨yb, 0, none⟩) len yc), (.int .i64 len), yy20, yy21, yy22, fr23, (.int .u32 n), (.int .u32 h), yy26, yy27, yy28, yy29, yy30, fr31, fr32, fr33, fr34, fr35, fr36, fr37, fr38, fr39, fr40, fr41, fr42, fr43, fr44, fr45, fr46, fr47, fr48, fr49, fr50, fr51, fr52, fr53, fr54, fr55, fr56, fr57, fr58, fr59, fr60, fr61, fr62, fr63, fr64, fr65, fr66, fr67, fr68, fr69, fr70, fr71, fr72, fr73, fr74, fr75, fr76, fr77, fr78, fr79, fr80, fr81, fr82, fr83, fr84, fr85, fr86, fr87, fr88, fr89, fr90, fr91, fr92, fr93, fr94, fr95, fr96, fr97, fr98, fr99, fr100, fr101, fr102, fr103, fr104, fr105, fr106, fr107, fr108, fr109, fr110, fr111, fr112, fr113, fr114, fr115, fr116, fr117, fr118, fr119, fr120, fr121, yy122, yy123, yy124, yy125, yy126, yy127, yy128, yy129, yy130, yy131, yy132, yy133, yy134, yy135, yy136, yy137, yy138, yy139, yy140, yy141, yy142, yy143, yy144, yy145, yy146, yy147, yy148, yy149, yy150, yy151, yy152, yy153, yy154, yy155, yy156, yy157, yy158, yy159, yy160, yy161, yy162, yy163, yy164, yy165, yy166, yy167, yy168, yy169, yy170, yy171, yy172, yy173, yy174, yy175, yy176, yy177, yy178, yy179, yy180, yy181, yy182, yy183, yy184, yy185, yy186, yy187, yy188, yy189, yy190, yy191, yy192, yy193, yy194, yy195, yy196, yy197, yy198, yy199, yy200, yy201, yy202, yy203, yy204, yy205, yy206, yy207, yy208, yy209, yy210, yy211, yy212, yy213, yy214, yy215, yy216, yy217, yy218, yy219, yy220, yy221, yy222, yy223, yy224, yy225, yy226, yy227, yy228, yy229, yy230, yy231, yy232, yy233, yy234, yy235, yy236, yy237, yy238, yy239, yy240, yy241, yy242, yy243, yy244, yy245, yy246, yy247, yy248, yy249, yy250, yy251, yy252, yy253, yy254, yy255, yy256, yy257, yy258, yy259, yy260, yy261, yy262, yy263, yy264, yy265, yy266, yy267, yy268, fr269, fr270, fr271, fr272, fr273, fr274, fr275, fr276, fr277, fr278, fr279, fr280, fr281, fr282, fr283, fr284, fr285, fr286, fr287, fr288, fr289, fr290, fr291, fr292, fr293, fr294, fr295, fr296, fr297, fr298, fr299, fr300, fr301, fr302, fr303, fr304, fr305, fr306, fr307, fr308, fr309, fr310, fr311, fr312, fr313, fr314, fr315, fr316, fr317, fr318, fr319, fr320, fr321, fr322, fr323, fr324, fr325, fr326, fr327, fr328, fr329, fr330, fr331], []⟩ w2) (hQe : ∀ (yy20 yy21 yy22 yy26 yy27 yy28 yy29 yy30 yy122 yy123 yy124 yy125 yy126 yy127 yy128 yy129 yy130 yy131 yy132 yy133 yy134 yy135 yy136 yy137 yy138 yy139 yy140 yy141 yy142 yy143 yy144 yy145 yy146 yy147 yy148 yy149 yy150 yy151 yy152 yy153 yy154 yy155 yy156 yy157 yy158 yy159 yy160 yy161 yy162 yy163 yy164 yy165 yy166 yy167 yy168 yy169 yy170 yy171 yy172 yy173 yy174 yy175 yy176 yy177 yy178 yy179 yy180 yy181 yy182 yy183 yy184 yy185 yy186 yy187 yy188 yy189 yy190 yy191 yy192 yy193 yy194 yy195 yy196 yy197 yy198 yy199 yy200 yy201 yy202 yy203 yy204 yy205 yy206 yy207 yy208 yy209 yy210 yy211 yy212 yy213 yy214 yy215 yy216 yy217 yy218 yy219 yy220 yy221 yy222 yy223 yy224 yy225 yy226 yy227 yy228 yy229 yy230 yy231 yy232 yy233 yy234 yy235 yy236 yy237 yy238 yy239 yy240 yy241 yy242 yy243 yy244 yy245 yy246 yy247 yy248 yy249 yy250 yy251 yy252 yy253 yy254 yy255 yy256 yy257 yy258 yy259 yy260 yy261 yy262 yy263 yy264 yy265 yy266 yy267 yy268 : Value) (w2 : World), SwInv b5 yb len dat w5 k yy20 yy21 yy22 w2 → Q (Exit.exit 1) ⟨#[fr0, fr1, fr2, fr3, fr4, fr5, fr6, fr7, fr8, fr9, fr10, fr11, fr12, fr13, fr14, fr15, fr16, fr17, (.slice (some ⟨yb, 0, none⟩) len yc), (.int .i64 len), yy20, yy21, yy22, fr23, (.int .u32 n), (.int .u32 h), yy26, yy27, yy28, yy29, yy30, fr31, fr32, fr33, fr34, fr35, fr36, fr37, fr38, fr39, fr40, fr41, fr42, fr43, fr44, fr45, fr46, fr47, fr48, fr49, fr50, fr51, fr52, fr53, fr54, fr55, fr56, fr57, fr58, fr59, fr60, fr61, fr62, fr63, fr64, fr65, fr66, fr67, fr68, fr69, fr70, fr71, fr72, fr73, fr74, fr75, fr76, fr77, fr78, fr79, fr80, fr81, fr82, fr83, fr84, fr85, fr86, fr87, fr88, fr89, fr90, fr91, fr92, fr93, fr94, fr95, fr96, fr97, fr98, fr99, fr100, fr101, fr102, fr103, fr104, fr105, fr106, fr107, fr108, fr109, fr110, fr111, fr112, fr113, fr114, fr115, fr116, fr117, fr118, fr119, fr120, fr121, yy122, yy123, yy124, yy125, yy126, yy127, yy128, yy129, yy130, yy131, yy132, yy133, yy134, yy135, yy136, yy137, yy138, yy139, yy140, yy141, yy142, yy143, yy144, yy145, yy146, yy147, yy148, yy149, yy150, yy151, yy152, yy153, yy154, yy155, yy156, yy157, yy158, yy159, yy160, yy161, yy162, yy163, yy164, yy165, yy166, yy167, yy168, yy169, yy170, yy171, yy172, yy173, yy174, yy175, yy176, yy177, yy178, yy179, yy180, yy181, yy182, yy183, yy184, yy185, yy186, yy187, yy188, yy189, yy190, yy191, yy192, yy193, yy194, yy195, yy196, yy197, yy198, yy199, yy200, yy201, yy202, yy203, yy204, yy205, yy206, yy207, yy208, yy209, yy210, yy211, yy212, yy213, yy214, yy215, yy216, yy217, yy218, yy219, yy220, yy221, yy222, yy223, yy224, yy225, yy226, yy227, yy228, yy229, yy230, yy231, yy232, yy233, yy234, yy235, yy236, yy237, yy238, yy239, yy240, yy241, yy242, yy243, yy244, yy245, yy246, yy247, yy248, yy249, yy250, yy251, yy252, yy253, yy254, yy255, yy256, yy257, yy258, yy259, yy260, yy261, yy262, yy263, yy264, yy265, yy266, yy267, yy268, fr269, fr270, fr271, fr272, fr273, fr274, fr275, fr276, fr277, fr278, fr279, fr280, fr281, fr282, fr283, fr284, fr285, fr286, fr287, fr288, fr289, fr290, fr291, fr292, fr293, fr294, fr295, fr296, fr297, fr298, fr299, fr300, fr301, fr302, fr303, fr304, fr305, fr306, fr307, fr308, fr309, fr310, fr311, fr312, fr313, fr314, fr315, fr316, fr317, fr318, fr319, fr320, fr321, fr322, fr323, fr324, fr325, fr326, fr327, fr328, fr329, fr330, fr331], []⟩ w2) :
    Code.wp Tryd.prog sw7 Q ⟨#[fr0, fr1, fr2, fr3, fr4, fr5, fr6, fr7, fr8, fr9, fr10, fr11, fr12, fr13, fr14, fr15, fr16, fr17, (.slice (some ⟨yb, 0, none⟩) len yc), (.int .i64 len), (.int .i64 i), (.slice ra k rc), (.slice ta k tc), fr23, (.int .u32 n), (.int .u32 h), (.int .i64 p), (.int .i64 y), fr28, fr29, fr30, fr31, fr32, fr33, fr34, fr35, fr36, fr37, fr38, fr39, fr40, fr41, fr42, fr43, fr44, fr45, fr46, fr47, fr48, fr49, fr50, fr51, fr52, fr53, fr54, fr55, fr56, fr57, fr58, fr59, fr60, fr61, fr62, fr63, fr64, fr65, fr66, fr67, fr68, fr69, fr70, fr71, fr72, fr73, fr74, fr75, fr76, fr77, fr78, fr79, fr80, fr81, fr82, fr83, fr84, fr85, fr86, fr87, fr88, fr89, fr90, fr91, fr92, fr93, fr94, fr95, fr96, fr97, fr98, fr99, fr100, fr101, fr102, fr103, fr104, fr105, fr106, fr107, fr108, fr109, fr110, fr111, fr112, fr113, fr114, fr115, fr116, fr117, fr118, fr119, fr120, fr121, (.int .u32 r), fr123, fr124, fr125, fr126, fr127, fr128, fr129, fr130, fr131, fr132, fr133, fr134, fr135, fr136, fr137, fr138, fr139, fr140, fr141, fr142, fr143, fr144, fr145, fr146, fr147, fr148, fr149, fr150, fr151, fr152, fr153, fr154, fr155, fr156, fr157, fr158, fr159, fr160, fr161, fr162, fr163, fr164, fr165, fr166, fr167, fr168, fr169, fr170, fr171, fr172, fr173, fr174, fr175, fr176, fr177, fr178, fr179, fr180, fr181, fr182, fr183, fr184, fr185, fr186, fr187, fr188, fr189, fr190, fr191, fr192, fr193, fr194, fr195, fr196, fr197, fr198, fr199, fr200, fr201, fr202, fr203, fr204, fr205, fr206, fr207, fr208, fr209, fr210, fr211, fr212, fr213, fr214, fr215, fr216, fr217, fr218, fr219, fr220, fr221, fr222, fr223, fr224, fr225, fr226, fr227, fr228, fr229, fr230, fr231, fr232, fr233, fr234, fr235, fr236, fr237, fr238, fr239, fr240, fr241, fr242, fr243, fr244, fr245, fr246, fr247, fr248, fr249, fr250, fr251, fr252, fr253, fr254, fr255, fr256, fr257, fr258, fr259, fr260, fr261, fr262, fr263, fr264, fr265, fr266, fr267, fr268, fr269, fr270, fr271, fr272, fr273, fr274, fr275, fr276, fr277, fr278, fr279, fr280, fr281, fr282, fr283, fr284, fr285, fr286, fr287, fr288, fr289, fr290, fr291, fr292, fr293, fr294, fr295, fr296, fr297, fr298, fr299, fr300, fr301, fr302, fr303, fr304, fr305, fr306, fr307, fr308, fr309, fr310, fr311, fr312, fr313, fr314, fr315, fr316, fr317, fr318, fr319, fr320, fr321, fr322, fr323, fr324, fr325, fr326, fr327, fr328, fr329, fr330, fr331], []⟩ wr := by
  conv => arg 2; whnf
  conv => arg 4; dsimp only
  obtain ⟨hi9, hfr5, hyB, ⟨x9, ho9⟩, ⟨x10, ho10⟩⟩ := hM.rows
  have HR := Lib.hid (And.intro hM (And.intro ho9 (And.intro ho10 (And.intro hyB hfr5))))
  clear hM ho9 ho10 hyB hfr5
  have hr0I : ((r : Int) == 0) = false := by simp; omega
  have hr1I : ((r : Int) == 1) = false := by simp; omega
  have hrI : ((r : Int) == 2) = true := by simp; omega
  go_wp2_with (at_builtin; (refine wpList_appS rfl (.tmp 217) (.tmp 220) 62 rfl 66 5 56 Tryd.underlying62 info66 (by decide) (by decide) b5 (.slice ra k rc) k x9 rfl HR.out.2.1 #[.int .i64 1, .int .i64 0, .int .i64 (p : Nat), .int .i64 0, .slice none 0 0] rfl rfl (stp_one _ _ _ _ _ _ _) (by omega) hwsz ?_))
  intro v9 w8 a9 g9
  obtain ⟨ra', rc', rfl⟩ := own_slice a9
  have hs8 : b5 ≤ w8.heap.size := by have := g9.size; omega
  have o10 := own_fr HR.out.2.2.1 g9 (own_sep HR.out.2.2.1 HR.out.2.1 (by decide))
  have HA9 := Lib.hid (And.intro a9 g9)
  have HO10 := Lib.hid o10
  clear a9 g9 o10
  go_wp2_with (at_builtin; (refine wpList_appS rfl (.tmp 223) (.tmp 226) 51 rfl 55 3 40 Tryd.underlying51 info55 (by decide) (by decide) b5 (.slice ta k tc) k x10 rfl HO10.out #[.slice none 0 0, .int .i64 (p : Nat), .int .i64 0] rfl rfl (tld_one _ _ _ _ _) (by omega) hs8 ?_))
  intro v10 w10 a10 g10
  obtain ⟨ta', tc', rfl⟩ := own_slice a10
  have HA10 := Lib.hid (And.intro a10 g10)
  clear a10 g10
  go_wp2_with fail
  first | apply hQn | apply hQe | skip
  refine ⟨k + 1, p, d, by omega, rfl, ?_⟩
  exact HR.out.1.next0 (s := ⟨1, 0, (p : Int), 0, 0, fun _ => 0⟩) (t := ⟨p, 0, fun _ => 0⟩) (.seek i p _ _ d (.inl ⟨rfl, rfl⟩) hp (by omega)) (by omega) HR.out.2.1 HR.out.2.2.1 HA9.out.1 HA9.out.2 (Fr.refl _ _) HA10.out.1 HA10.out.2 rfl (own_nil _ _ _ _)
end Go.Proofs.YtokpomdfgbbhlaaDoor

/- FnMixed, the switch: a step that seeks from where it is. -/
namespace Go.Proofs.YtokpomdfgbbhlaaDoor
open Go Go.RowKit Go.Maps

set_option maxRecDepth 100000 in
set_option maxHeartbeats 8000000 in
theorem sw_c (fr0 fr1 fr2 fr3 fr4 fr5 fr6 fr7 fr8 fr9 fr10 fr11 fr12 fr13 fr14 fr15 fr16 fr17 fr23 fr28 fr29 fr30 fr31 fr32 fr33 fr34 fr35 fr36 fr37 fr38 fr39 fr40 fr41 fr42 fr43 fr44 fr45 fr46 fr47 fr48 fr49 fr50 fr51 fr52 fr53 fr54 fr55 fr56 fr57 fr58 fr59 fr60 fr61 fr62 fr63 fr64 fr65 fr66 fr67 fr68 fr69 fr70 fr71 fr72 fr73 fr74 fr75 fr76 fr77 fr78 fr79 fr80 fr81 fr82 fr83 fr84 fr85 fr86 fr87 fr88 fr89 fr90 fr91 fr92 fr93 fr94 fr95 fr96 fr97 fr98 fr99 fr100 fr101 fr102 fr103 fr104 fr105 fr106 fr107 fr108 fr109 fr110 fr111 fr112 fr113 fr114 fr115 fr116 fr117 fr118 fr119 fr120 fr121 fr123 fr124 fr125 fr126 fr127 fr128 fr129 fr130 fr131 fr132 fr133 fr134 fr135 fr136 fr137 fr138 fr139 fr140 fr141 fr142 fr143 fr144 fr145 fr146 fr147 fr148 fr149 fr150 fr151 fr152 fr153 fr154 fr155 fr156 fr157 fr158 fr159 fr160 fr161 fr162 fr163 fr164 fr165 fr166 fr167 fr168 fr169 fr170 fr171 fr172 fr173 fr174 fr175 fr176 fr177 fr178 fr179 fr180 fr181 fr182 fr183 fr184 fr185 fr186 fr187 fr188 fr189 fr190 fr191 fr192 fr193 fr194 fr195 fr196 fr197 fr198 fr199 fr200 fr201 fr202 fr203 fr204 fr205 fr206 fr207 fr208 fr209 fr210 fr211 fr212 fr213 fr214 fr215 fr216 fr217 fr218 fr219 fr220 fr221 fr222 fr223 fr224 fr225 fr226 fr227 fr228 fr229 fr230 fr231 fr232 fr233 fr234 fr235 fr236 fr237 fr238 fr239 fr240 fr241 fr242 fr243 fr244 fr245 fr246 fr247 fr248 fr249 fr250 fr251 fr252 fr253 fr254 fr255 fr256 fr257 fr258 fr259 fr260 fr261 fr262 fr263 fr264 fr265 fr266 fr267 fr268 fr269 fr270 fr271 fr272 fr273 fr274 fr275 fr276 fr277 fr278 fr279 fr280 fr281 fr282 fr283 fr284 fr285 fr286 fr287 fr288 fr289 fr290 fr291 fr292 fr293 fr294 fr295 fr296 fr297 fr298 fr299 fr300 fr301 fr302 fr303 fr304 fr305 fr306 fr307 fr308 fr309 fr310 fr311 fr312 fr313 fr314 fr315 fr316 fr317 fr318 fr319 fr320 fr321 fr322 fr323 fr324 fr325 fr326 fr327 fr328 fr329 fr330 fr331 : Value) (b5 yb yc len k i rc tc n h p y r : Nat) (ra ta : Option Addr) (dat d : Nat → UInt8) (w5 wr : World) (Q : Exit → Act → World → Prop) (hM : MxAt b5 yb len dat w5 k i d (.slice ra k rc) (.slice ta k tc) wr) (hwsz : b5 ≤ wr.heap.size) (hyl : yb < b5) (hk50 : k ≤ 50) (hlen9 : len ≤ 9000) (h0 : ¬ len = 0) (hyc1 : len ≤ yc) (hyc2 : yc ≤ 9223372036854775807) (hh : h < 4294967296) (hp : p < len) (hy1 : 1 ≤ y) (hy2 : y ≤ 200) (hrnI : (n : Int) % 7 = (r : Int)) (hr7 : r < 7) (hr3 : r = 3) (hQn : ∀ (yy20 yy21 yy22 yy26 yy27 yy28 yy29 yy30 yy122 yy123 yy124 yy125 yy126 yy127 yy128 yy129 yy130 yy131 yy132 yy133 yy134 yy135 yy136 yy137 yy138 yy139 yy140 yy141 yy142 yy143 yy144 yy145 yy146 yy147 yy148 yy149 yy150 yy151 yy152 yy153 yy154 yy155 yy156 yy157 yy158 yy159 yy160 yy161 yy162 yy163 yy164 yy165 yy166 yy167 yy168 yy169 yy170 yy171 yy172 yy173 yy174 yy175 yy176 yy177 yy178 yy179 yy180 yy181 yy182 yy183 yy184 yy185 yy186 yy187 yy188 yy189 yy190 yy191 yy192 yy193 yy194 yy195 yy196 yy197 yy198 yy199 yy200 yy201 yy202 yy203 yy204 yy205 yy206 yy207 yy208 yy209 yy210 yy211 yy212 yy213 yy214 yy215 yy216 yy217 yy218 yy219 yy220 yy221 yy222 yy223 yy224 yy225 yy226 yy227 yy228 yy229 yy230 yy231 yy232 yy233 yy234 yy235 yy236 yy237 yy238 yy239 yy240 yy241 yy242 yy243 yy244 yy245 yy246 yy247 yy248 yy249 yy250 yy251 yy252 yy253 yy254 yy255 yy256 yy257 yy258 yy259 yy260 yy261 yy262 yy263 yy264 yy265 yy266 yy267 yy268 : Value) (w2 : World), SwInv b5 yb len dat w5 k yy20 yy21 yy22 w2 → Q Exit.normal ⟨#[fr0, fr1, fr2, fr3, fr4, fr5, fr6, fr7, fr8, fr9, fr10, fr11, fr12, fr13, fr14, fr15, fr16, fr17, (.slice (some ⟨yb, 0, none⟩) len yc), (.int .i64 len), yy20, yy21, yy22, fr23, (.int .u32 n), (.int .u32 h), yy26, yy27, yy28, yy29, yy30, fr31, fr32, fr33, fr34, fr35, fr36, fr37, fr38, fr39, fr40, fr41, fr42, fr43, fr44, fr45, fr46, fr47, fr48, fr49, fr50, fr51, fr52, fr53, fr54, fr55, fr56, fr57, fr58, fr59, fr60, fr61, fr62, fr63, fr64, fr65, fr66, fr67, fr68, fr69, fr70, fr71, fr72, fr73, fr74, fr75, fr76, fr77, fr78, fr79, fr80, fr81, fr82, fr83, fr84, fr85, fr86, fr87, fr88, fr89, fr90, fr91, fr92, fr93, fr94, fr95, fr96, fr97, fr98, fr99, fr100, fr101, fr102, fr103, fr104, fr105, fr106, fr107, fr108, fr109, fr110, fr111, fr112, fr113, fr114, fr115, fr116, fr117, fr118, fr119, fr120, fr121, yy122, yy123, yy124, yy125, yy126, yy127, yy128, yy129, yy130, yy131, yy132, yy133, yy134, yy135, yy136, yy137, yy138, yy139, yy140, yy141, yy142, yy143, yy144, yy145, yy146, yy147, yy148, yy149, yy150, yy151, yy152, yy153, yy154, yy155, yy156, yy157, yy158, yy159, yy160, yy161, yy162, yy163, yy164, yy165, yy166, yy167, yy168, yy169, yy170, yy171, yy172, yy173, yy174, yy175, yy176, yy177, yy178, yy179, yy180, yy181, yy182, yy183, yy184, yy185, yy186, yy187, yy188, yy189, yy190, yy191, yy192, yy193, yy194, yy195, yy196, yy197, yy198, yy199, yy200, yy201, yy202, yy203, yy204, yy205, yy206, yy207, yy208, yy209, yy210, yy211, yy212, yy213, yy214, yy215, yy216, yy217, yy218, yy219, yy220, yy221, yy222, yy223, yy224, yy225, yy226, yy227, yy228, yy229, yy230, yy231, yy232, yy233, yy234, yy235, yy236, yy237, yy238, yy239, yy240, yy241, yy242, yy243, yy244, yy245, yy246, yy247, yy248, yy249, yy250, yy251, yy252, yy253, yy254, yy255, yy256, yy257, yy258, yy259, yy260, yy261, yy262, yy263, yy264, yy265, yy266, yy267, yy268, fr269, fr270, fr271, fr272, fr273, fr274, fr275, fr276, fr277, fr278, fr279, fr280, fr281, fr282, fr283, fr284, fr285, fr286, fr287, fr288, fr289, fr290, fr291, fr292, fr293, fr294, fr295, fr296, fr297, fr298, fr299, fr300, fr301, fr302, fr303, fr304, fr305, fr306, fr307, fr308, fr309, fr310, fr311, fr312, fr313, fr314, fr315, fr316, fr317, fr318, fr319, fr320, fr321, fr322, fr323, fr324, fr325, fr326, fr327, fr328, fr329, fr330, fr331], []⟩ w2) (hQe : ∀ (yy20 yy21 yy22 yy26 yy27 yy28 yy29 yy30 yy122 yy123 yy124 yy125 yy126 yy127 yy128 yy129 yy130 yy131 yy132 yy133 yy134 yy135 yy136 yy137 yy138 yy139 yy140 yy141 yy142 yy143 yy144 yy145 yy146 yy147 yy148 yy149 yy150 yy151 yy152 yy153 yy154 yy155 yy156 yy157 yy158 yy159 yy160 yy161 yy162 yy163 yy164 yy165 yy166 yy167 yy168 yy169 yy170 yy171 yy172 yy173 yy174 yy175 yy176 yy177 yy178 yy179 yy180 yy181 yy182 yy183 yy184 yy185 yy186 yy187 yy188 yy189 yy190 yy191 yy192 yy193 yy194 yy195 yy196 yy197 yy198 yy199 yy200 yy201 yy202 yy203 yy204 yy205 yy206 yy207 yy208 yy209 yy210 yy211 yy212 yy213 yy214 yy215 yy216 yy217 yy218 yy219 yy220 yy221 yy222 yy223 yy224 yy225 yy226 yy227 yy228 yy229 yy230 yy231 yy232 yy233 yy234 yy235 yy236 yy237 yy238 yy239 yy240 yy241 yy242 yy243 yy244 yy245 yy246 yy247 yy248 yy249 yy250 yy251 yy252 yy253 yy254 yy255 yy256 yy257 yy258 yy259 yy260 yy261 yy262 yy263 yy264 yy265 yy266 yy267 yy268 : Value) (w2 : World), SwInv b5 yb len dat w5 k yy20 yy21 yy22 w2 → Q (Exit.exit 1) ⟨#[fr0, fr1, fr2, fr3, fr4, fr5, fr6, fr7, fr8, fr9, fr10, fr11, fr12, fr13, fr14, fr15, fr16, fr17, (.slice (some ⟨yb, 0, none⟩) len yc), (.int .i64 len), yy20, yy21, yy22, fr23, (.int .u32 n), (.int .u32 h), yy26, yy27, yy28, yy29, yy30, fr31, fr32, fr33, fr34, fr35, fr36, fr37, fr38, fr39, fr40, fr41, fr42, fr43, fr44, fr45, fr46, fr47, fr48, fr49, fr50, fr51, fr52, fr53, fr54, fr55, fr56, fr57, fr58, fr59, fr60, fr61, fr62, fr63, fr64, fr65, fr66, fr67, fr68, fr69, fr70, fr71, fr72, fr73, fr74, fr75, fr76, fr77, fr78, fr79, fr80, fr81, fr82, fr83, fr84, fr85, fr86, fr87, fr88, fr89, fr90, fr91, fr92, fr93, fr94, fr95, fr96, fr97, fr98, fr99, fr100, fr101, fr102, fr103, fr104, fr105, fr106, fr107, fr108, fr109, fr110, fr111, fr112, fr113, fr114, fr115, fr116, fr117, fr118, fr119, fr120, fr121, yy122, yy123, yy124, yy125, yy126, yy127, yy128, yy129, yy130, yy131, yy132, yy133, yy134, yy135, yy136, yy137, yy138, yy139, yy140, yy141, yy142, yy143, yy144, yy145, yy146, yy147, yy148, yy149, yy150, yy151, yy152, yy153, yy154, yy155, yy156, yy157, yy158, yy159, yy160, yy161, yy162, yy163, yy164, yy165, yy166, yy167, yy168, yy169, yy170, yy171, yy172, yy173, yy174, yy175, yy176, yy177, yy178, yy179, yy180, yy181, yy182, yy183, yy184, yy185, yy186, yy187, yy188, yy189, yy190, yy191, yy192, yy193, yy194, yy195, yy196, yy197, yy198, yy199, yy200, yy201, yy202, yy203, yy204, yy205, yy206, yy207, yy208, yy209, yy210, yy211, yy212, yy213, yy214, yy215, yy216, yy217, yy218, yy219, yy220, yy221, yy222, yy223, yy224, yy225, yy226, yy227, yy228, yy229, yy230, yy231, yy232, yy233, yy234, yy235, yy236, yy237, yy238, yy239, yy240, yy241, yy242, yy243, yy244, yy245, yy246, yy247, yy248, yy249, yy250, yy251, yy252, yy253, yy254, yy255, yy256, yy257, yy258, yy259, yy260, yy261, yy262, yy263, yy264, yy265, yy266, yy267, yy268, fr269, fr270, fr271, fr272, fr273, fr274, fr275, fr276, fr277, fr278, fr279, fr280, fr281, fr282, fr283, fr284, fr285, fr286, fr287, fr288, fr289, fr290, fr291, fr292, fr293, fr294, fr295, fr296, fr297, fr298, fr299, fr300, fr301, fr302, fr303, fr304, fr305, fr306, fr307, fr308, fr309, fr310, fr311, fr312, fr313, fr314, fr315, fr316, fr317, fr318, fr319, fr320, fr321, fr322, fr323, fr324, fr325, fr326, fr327, fr328, fr329, fr330, fr331], []⟩ w2) :
    Code.wp Tryd.prog sw7 Q ⟨#[fr0, fr1, fr2, fr3, fr4, fr5, fr6, fr7, fr8, fr9, fr10, fr11, fr12, fr13, fr14, fr15, fr16, fr17, (.slice (some ⟨yb, 0, none⟩) len yc), (.int .i64 len), (.int .i64 i), (.slice ra k rc), (.slice ta k tc), fr23, (.int .u32 n), (.int .u32 h), (.int .i64 p), (.int .i64 y), fr28, fr29, fr30, fr31, fr32, fr33, fr34, fr35, fr36, fr37, fr38, fr39, fr40, fr41, fr42, fr43, fr44, fr45, fr46, fr47, fr48, fr49, fr50, fr51, fr52, fr53, fr54, fr55, fr56, fr57, fr58, fr59, fr60, fr61, fr62, fr63, fr64, fr65, fr66, fr67, fr68, fr69, fr70, fr71, fr72, fr73, fr74, fr75, fr76, fr77, fr78, fr79, fr80, fr81, fr82, fr83, fr84, fr85, fr86, fr87, fr88, fr89, fr90, fr91, fr92, fr93, fr94, fr95, fr96, fr97, fr98, fr99, fr100, fr101, fr102, fr103, fr104, fr105, fr106, fr107, fr108, fr109, fr110, fr111, fr112, fr113, fr114, fr115, fr116, fr117, fr118, fr119, fr120, fr121, (.int .u32 r), fr123, fr124, fr125, fr126, fr127, fr128, fr129, fr130, fr131, fr132, fr133, fr134, fr135, fr136, fr137, fr138, fr139, fr140, fr141, fr142, fr143, fr144, fr145, fr146, fr147, fr148, fr149, fr150, fr151, fr152, fr153, fr154, fr155, fr156, fr157, fr158, fr159, fr160, fr161, fr162, fr163, fr164, fr165, fr166, fr167, fr168, fr169, fr170, fr171, fr172, fr173, fr174, fr175, fr176, fr177, fr178, fr179, fr180, fr181, fr182, fr183, fr184, fr185, fr186, fr187, fr188, fr189, fr190, fr191, fr192, fr193, fr194, fr195, fr196, fr197, fr198, fr199, fr200, fr201, fr202, fr203, fr204, fr205, fr206, fr207, fr208, fr209, fr210, fr211, fr212, fr213, fr214, fr215, fr216, fr217, fr218, fr219, fr220, fr221, fr222, fr223, fr224, fr225, fr226, fr227, fr228, fr229, fr230, fr231, fr232, fr233, fr234, fr235, fr236, fr237, fr238, fr239, fr240, fr241, fr242, fr243, fr244, fr245, fr246, fr247, fr248, fr249, fr250, fr251, fr252, fr253, fr254, fr255, fr256, fr257, fr258, fr259, fr260, fr261, fr262, fr263, fr264, fr265, fr266, fr267, fr268, fr269, fr270, fr271, fr272, fr273, fr274, fr275, fr276, fr277, fr278, fr279, fr280, fr281, fr282, fr283, fr284, fr285, fr286, fr287, fr288, fr289, fr290, fr291, fr292, fr293, fr294, fr295, fr296, fr297, fr298, fr299, fr300, fr301, fr302, fr303, fr304, fr305, fr306, fr307, fr308, fr309, fr310, fr311, fr312, fr313, fr314, fr315, fr316, fr317, fr318, fr319, fr320, fr321, fr322, fr323, fr324, fr325, fr326, fr327, fr328, fr329, fr330, fr331], []⟩ wr := by
  conv => arg 2; whnf
  conv => arg 4; dsimp only
  obtain ⟨hi9, hfr5, hyB, ⟨x9, ho9⟩, ⟨x10, ho10⟩⟩ := hM.rows
  have HR := Lib.hid (And.intro hM (And.intro ho9 (And.intro ho10 (And.intro hyB hfr5))))
  clear hM ho9 ho10 hyB hfr5
  have hr0I : ((r : Int) == 0) = false := by simp; omega
  have hr1I : ((r : Int) == 1) = false := by simp; omega
  have hrI0 : ((r : Int) == 2) = false := by simp; omega
  have hrI : ((r : Int) == 3) = true := by simp; omega
  have hwpi : IntKind.i64.wrap ((p : Int) - (i : Int)) = (p : Int) - (i : Int) := IntWalk.i64_in _ (by omega)
  go_wp2_with (at_builtin; (refine wpList_appS rfl (.tmp 230) (.tmp 235) 62 rfl 66 5 56 Tryd.underlying62 info66 (by decide) (by decide) b5 (.slice ra k rc) k x9 rfl HR.out.2.1 #[.int .i64 1, .int .i64 0, .int .i64 ((p : Int) - (i : Int)), .int .i64 1, .slice none 0 0] rfl rfl (stp_one _ _ _ _ _ _ _) (by omega) hwsz ?_))
  intro v9 w8 a9 g9
  obtain ⟨ra', rc', rfl⟩ := own_slice a9
  have hs8 : b5 ≤ w8.heap.size := by have := g9.size; omega
  have o10 := own_fr HR.out.2.2.1 g9 (own_sep HR.out.2.2.1 HR.out.2.1 (by decide))
  have HA9 := Lib.hid (And.intro a9 g9)
  have HO10 := Lib.hid o10
  clear a9 g9 o10
  go_wp2_with (at_builtin; (refine wpList_appS rfl (.tmp 238) (.tmp 241) 51 rfl 55 3 40 Tryd.underlying51 info55 (by decide) (by decide) b5 (.slice ta k tc) k x10 rfl HO10.out #[.slice none 0 0, .int .i64 (p : Nat), .int .i64 0] rfl rfl (tld_one _ _ _ _ _) (by omega) hs8 ?_))
  intro v10 w10 a10 g10
  obtain ⟨ta', tc', rfl⟩ := own_slice a10
  have HA10 := Lib.hid (And.intro a10 g10)
  clear a10 g10
  go_wp2_with fail
  first | apply hQn | apply hQe | skip
  refine ⟨k + 1, p, d, by omega, rfl, ?_⟩
  exact HR.out.1.next0 (s := ⟨1, 0, (p : Int) - (i : Int), 1, 0, fun _ => 0⟩) (t := ⟨p, 0, fun _ => 0⟩) (.seek i p _ _ d (.inr ⟨rfl, by omega⟩) hp (by omega)) (by omega) HR.out.2.1 HR.out.2.2.1 HA9.out.1 HA9.out.2 (Fr.refl _ _) HA10.out.1 HA10.out.2 rfl (own_nil _ _ _ _)
end Go.Proofs.YtokpomdfgbbhlaaDoor

/- FnMixed, the switch: a step that reads at a place. -/
namespace Go.Proofs.YtokpomdfgbbhlaaDoor
open Go Go.RowKit Go.Maps

set_option maxRecDepth 100000 in
set_option maxHeartbeats 8000000 in
theorem sw_d (fr0 fr1 fr2 fr3 fr4 fr5 fr6 fr7 fr8 fr9 fr10 fr11 fr12 fr13 fr14 fr15 fr16 fr17 fr23 fr28 fr29 fr30 fr31 fr32 fr33 fr34 fr35 fr36 fr37 fr38 fr39 fr40 fr41 fr42 fr43 fr44 fr45 fr46 fr47 fr48 fr49 fr50 fr51 fr52 fr53 fr54 fr55 fr56 fr57 fr58 fr59 fr60 fr61 fr62 fr63 fr64 fr65 fr66 fr67 fr68 fr69 fr70 fr71 fr72 fr73 fr74 fr75 fr76 fr77 fr78 fr79 fr80 fr81 fr82 fr83 fr84 fr85 fr86 fr87 fr88 fr89 fr90 fr91 fr92 fr93 fr94 fr95 fr96 fr97 fr98 fr99 fr100 fr101 fr102 fr103 fr104 fr105 fr106 fr107 fr108 fr109 fr110 fr111 fr112 fr113 fr114 fr115 fr116 fr117 fr118 fr119 fr120 fr121 fr123 fr124 fr125 fr126 fr127 fr128 fr129 fr130 fr131 fr132 fr133 fr134 fr135 fr136 fr137 fr138 fr139 fr140 fr141 fr142 fr143 fr144 fr145 fr146 fr147 fr148 fr149 fr150 fr151 fr152 fr153 fr154 fr155 fr156 fr157 fr158 fr159 fr160 fr161 fr162 fr163 fr164 fr165 fr166 fr167 fr168 fr169 fr170 fr171 fr172 fr173 fr174 fr175 fr176 fr177 fr178 fr179 fr180 fr181 fr182 fr183 fr184 fr185 fr186 fr187 fr188 fr189 fr190 fr191 fr192 fr193 fr194 fr195 fr196 fr197 fr198 fr199 fr200 fr201 fr202 fr203 fr204 fr205 fr206 fr207 fr208 fr209 fr210 fr211 fr212 fr213 fr214 fr215 fr216 fr217 fr218 fr219 fr220 fr221 fr222 fr223 fr224 fr225 fr226 fr227 fr228 fr229 fr230 fr231 fr232 fr233 fr234 fr235 fr236 fr237 fr238 fr239 fr240 fr241 fr242 fr243 fr244 fr245 fr246 fr247 fr248 fr249 fr250 fr251 fr252 fr253 fr254 fr255 fr256 fr257 fr258 fr259 fr260 fr261 fr262 fr263 fr264 fr265 fr266 fr267 fr268 fr269 fr270 fr271 fr272 fr273 fr274 fr275 fr276 fr277 fr278 fr279 fr280 fr281 fr282 fr283 fr284 fr285 fr286 fr287 fr288 fr289 fr290 fr291 fr292 fr293 fr294 fr295 fr296 fr297 fr298 fr299 fr300 fr301 fr302 fr303 fr304 fr305 fr306 fr307 fr308 fr309 fr310 fr311 fr312 fr313 fr314 fr315 fr316 fr317 fr318 fr319 fr320 fr321 fr322 fr323 fr324 fr325 fr326 fr327 fr328 fr329 fr330 fr331 : Value) (b5 yb yc len k i rc tc n h p y r : Nat) (ra ta : Option Addr) (dat d : Nat → UInt8) (w5 wr : World) (Q : Exit → Act → World → Prop) (hM : MxAt b5 yb len dat w5 k i d (.slice ra k rc) (.slice ta k tc) wr) (hwsz : b5 ≤ wr.heap.size) (hyl : yb < b5) (hk50 : k ≤ 50) (hlen9 : len ≤ 9000) (h0 : ¬ len = 0) (hyc1 : len ≤ yc) (hyc2 : yc ≤ 9223372036854775807) (hh : h < 4294967296) (hp : p < len) (hy1 : 1 ≤ y) (hy2 : y ≤ 200) (hrnI : (n : Int) % 7 = (r : Int)) (hr7 : r < 7) (hr4 : r = 4) (hQn : ∀ (yy20 yy21 yy22 yy26 yy27 yy28 yy29 yy30 yy122 yy123 yy124 yy125 yy126 yy127 yy128 yy129 yy130 yy131 yy132 yy133 yy134 yy135 yy136 yy137 yy138 yy139 yy140 yy141 yy142 yy143 yy144 yy145 yy146 yy147 yy148 yy149 yy150 yy151 yy152 yy153 yy154 yy155 yy156 yy157 yy158 yy159 yy160 yy161 yy162 yy163 yy164 yy165 yy166 yy167 yy168 yy169 yy170 yy171 yy172 yy173 yy174 yy175 yy176 yy177 yy178 yy179 yy180 yy181 yy182 yy183 yy184 yy185 yy186 yy187 yy188 yy189 yy190 yy191 yy192 yy193 yy194 yy195 yy196 yy197 yy198 yy199 yy200 yy201 yy202 yy203 yy204 yy205 yy206 yy207 yy208 yy209 yy210 yy211 yy212 yy213 yy214 yy215 yy216 yy217 yy218 yy219 yy220 yy221 yy222 yy223 yy224 yy225 yy226 yy227 yy228 yy229 yy230 yy231 yy232 yy233 yy234 yy235 yy236 yy237 yy238 yy239 yy240 yy241 yy242 yy243 yy244 yy245 yy246 yy247 yy248 yy249 yy250 yy251 yy252 yy253 yy254 yy255 yy256 yy257 yy258 yy259 yy260 yy261 yy262 yy263 yy264 yy265 yy266 yy267 yy268 : Value) (w2 : World), SwInv b5 yb len dat w5 k yy20 yy21 yy22 w2 → Q Exit.normal ⟨#[fr0, fr1, fr2, fr3, fr4, fr5, fr6, fr7, fr8, fr9, fr10, fr11, fr12, fr13, fr14, fr15, fr16, fr17, (.slice (some ⟨yb, 0, none⟩) len yc), (.int .i64 len), yy20, yy21, yy22, fr23, (.int .u32 n), (.int .u32 h), yy26, yy27, yy28, yy29, yy30, fr31, fr32, fr33, fr34, fr35, fr36, fr37, fr38, fr39, fr40, fr41, fr42, fr43, fr44, fr45, fr46, fr47, fr48, fr49, fr50, fr51, fr52, fr53, fr54, fr55, fr56, fr57, fr58, fr59, fr60, fr61, fr62, fr63, fr64, fr65, fr66, fr67, fr68, fr69, fr70, fr71, fr72, fr73, fr74, fr75, fr76, fr77, fr78, fr79, fr80, fr81, fr82, fr83, fr84, fr85, fr86, fr87, fr88, fr89, fr90, fr91, fr92, fr93, fr94, fr95, fr96, fr97, fr98, fr99, fr100, fr101, fr102, fr103, fr104, fr105, fr106, fr107, fr108, fr109, fr110, fr111, fr112, fr113, fr114, fr115, fr116, fr117, fr118, fr119, fr120, fr121, yy122, yy123, yy124, yy125, yy126, yy127, yy128, yy129, yy130, yy131, yy132, yy133, yy134, yy135, yy136, yy137, yy138, yy139, yy140, yy141, yy142, yy143, yy144, yy145, yy146, yy147, yy148, yy149, yy150, yy151, yy152, yy153, yy154, yy155, yy156, yy157, yy158, yy159, yy160, yy161, yy162, yy163, yy164, yy165, yy166, yy167, yy168, yy169, yy170, yy171, yy172, yy173, yy174, yy175, yy176, yy177, yy178, yy179, yy180, yy181, yy182, yy183, yy184, yy185, yy186, yy187, yy188, yy189, yy190, yy191, yy192, yy193, yy194, yy195, yy196, yy197, yy198, yy199, yy200, yy201, yy202, yy203, yy204, yy205, yy206, yy207, yy208, yy209, yy210, yy211, yy212, yy213, yy214, yy215, yy216, yy217, yy218, yy219, yy220, yy221, yy222, yy223, yy224, yy225, yy226, yy227, yy228, yy229, yy230, yy231, yy232, yy233, yy234, yy235, yy236, yy237, yy238, yy239, yy240, yy241, yy242, yy243, yy244, yy245, yy246, yy247, yy248, yy249, yy250, yy251, yy252, yy253, yy254, yy255, yy256, yy257, yy258, yy259, yy260, yy261, yy262, yy263, yy264, yy265, yy266, yy267, yy268, fr269, fr270, fr271, fr272, fr273, fr274, fr275, fr276, fr277, fr278, fr279, fr280, fr281, fr282, fr283, fr284, fr285, fr286, fr287, fr288, fr289, fr290, fr291, fr292, fr293, fr294, fr295, fr296, fr297, fr298, fr299, fr300, fr301, fr302, fr303, fr304, fr305, fr306, fr307, fr308, fr309, fr310, fr311, fr312, fr313, fr314, fr315, fr316, fr317, fr318, fr319, fr320, fr321, fr322, fr323, fr324, fr325, fr326, fr327, fr328, fr329, fr330, fr331], []⟩ w2) (hQe : ∀ (yy20 yy21 yy22 yy26 yy27 yy28 yy29 yy30 yy122 yy123 yy124 yy125 yy126 yy127 yy128 yy129 yy130 yy131 yy132 yy133 yy134 yy135 yy136 yy137 yy138 yy139 yy140 yy141 yy142 yy143 yy144 yy145 yy146 yy147 yy148 yy149 yy150 yy151 yy152 yy153 yy154 yy155 yy156 yy157 yy158 yy159 yy160 yy161 yy162 yy163 yy164 yy165 yy166 yy167 yy168 yy169 yy170 yy171 yy172 yy173 yy174 yy175 yy176 yy177 yy178 yy179 yy180 yy181 yy182 yy183 yy184 yy185 yy186 yy187 yy188 yy189 yy190 yy191 yy192 yy193 yy194 yy195 yy196 yy197 yy198 yy199 yy200 yy201 yy202 yy203 yy204 yy205 yy206 yy207 yy208 yy209 yy210 yy211 yy212 yy213 yy214 yy215 yy216 yy217 yy218 yy219 yy220 yy221 yy222 yy223 yy224 yy225 yy226 yy227 yy228 yy229 yy230 yy231 yy232 yy233 yy234 yy235 yy236 yy237 yy238 yy239 yy240 yy241 yy242 yy243 yy244 yy245 yy246 yy247 yy248 yy249 yy250 yy251 yy252 yy253 yy254 yy255 yy256 yy257 yy258 yy259 yy260 yy261 yy262 yy263 yy264 yy265 yy266 yy267 yy268 : Value) (w2 : World), SwInv b5 yb len dat w5 k yy20 yy21 yy22 w2 → Q (Exit.exit 1) ⟨#[fr0, fr1, fr2, fr3, fr4, fr5, fr6, fr7, fr8, fr9, fr10, fr11, fr12, fr13, fr14, fr15, fr16, fr17, (.slice (some ⟨yb, 0, none⟩) len yc), (.int .i64 len), yy20, yy21, yy22, fr23, (.int .u32 n), (.int .u32 h), yy26, yy27, yy28, yy29, yy30, fr31, fr32, fr33, fr34, fr35, fr36, fr37, fr38, fr39, fr40, fr41, fr42, fr43, fr44, fr45, fr46, fr47, fr48, fr49, fr50, fr51, fr52, fr53, fr54, fr55, fr56, fr57, fr58, fr59, fr60, fr61, fr62, fr63, fr64, fr65, fr66, fr67, fr68, fr69, fr70, fr71, fr72, fr73, fr74, fr75, fr76, fr77, fr78, fr79, fr80, fr81, fr82, fr83, fr84, fr85, fr86, fr87, fr88, fr89, fr90, fr91, fr92, fr93, fr94, fr95, fr96, fr97, fr98, fr99, fr100, fr101, fr102, fr103, fr104, fr105, fr106, fr107, fr108, fr109, fr110, fr111, fr112, fr113, fr114, fr115, fr116, fr117, fr118, fr119, fr120, fr121, yy122, yy123, yy124, yy125, yy126, yy127, yy128, yy129, yy130, yy131, yy132, yy133, yy134, yy135, yy136, yy137, yy138, yy139, yy140, yy141, yy142, yy143, yy144, yy145, yy146, yy147, yy148, yy149, yy150, yy151, yy152, yy153, yy154, yy155, yy156, yy157, yy158, yy159, yy160, yy161, yy162, yy163, yy164, yy165, yy166, yy167, yy168, yy169, yy170, yy171, yy172, yy173, yy174, yy175, yy176, yy177, yy178, yy179, yy180, yy181, yy182, yy183, yy184, yy185, yy186, yy187, yy188, yy189, yy190, yy191, yy192, yy193, yy194, yy195, yy196, yy197, yy198, yy199, yy200, yy201, yy202, yy203, yy204, yy205, yy206, yy207, yy208, yy209, yy210, yy211, yy212, yy213, yy214, yy215, yy216, yy217, yy218, yy219, yy220, yy221, yy222, yy223, yy224, yy225, yy226, yy227, yy228, yy229, yy230, yy231, yy232, yy233, yy234, yy235, yy236, yy237, yy238, yy239, yy240, yy241, yy242, yy243, yy244, yy245, yy246, yy247, yy248, yy249, yy250, yy251, yy252, yy253, yy254, yy255, yy256, yy257, yy258, yy259, yy260, yy261, yy262, yy263, yy264, yy265, yy266, yy267, yy268, fr269, fr270, fr271, fr272, fr273, fr274, fr275, fr276, fr277, fr278, fr279, fr280, fr281, fr282, fr283, fr284, fr285, fr286, fr287, fr288, fr289, fr290, fr291, fr292, fr293, fr294, fr295, fr296, fr297, fr298, fr299, fr300, fr301, fr302, fr303, fr304, fr305, fr306, fr307, fr308, fr309, fr310, fr311, fr312, fr313, fr314, fr315, fr316, fr317, fr318, fr319, fr320, fr321, fr322, fr323, fr324, fr325, fr326, fr327, fr328, fr329, fr330, fr331], []⟩ w2) :
    Code.wp Tryd.prog sw7 Q ⟨#[fr0, fr1, fr2, fr3, fr4, fr5, fr6, fr7, fr8, fr9, fr10, fr11, fr12, fr13, fr14, fr15, fr16, fr17, (.slice (some ⟨yb, 0, none⟩) len yc), (.int .i64 len), (.int .i64 i), (.slice ra k rc), (.slice ta k tc), fr23, (.int .u32 n), (.int .u32 h), (.int .i64 p), (.int .i64 y), fr28, fr29, fr30, fr31, fr32, fr33, fr34, fr35, fr36, fr37, fr38, fr39, fr40, fr41, fr42, fr43, fr44, fr45, fr46, fr47, fr48, fr49, fr50, fr51, fr52, fr53, fr54, fr55, fr56, fr57, fr58, fr59, fr60, fr61, fr62, fr63, fr64, fr65, fr66, fr67, fr68, fr69, fr70, fr71, fr72, fr73, fr74, fr75, fr76, fr77, fr78, fr79, fr80, fr81, fr82, fr83, fr84, fr85, fr86, fr87, fr88, fr89, fr90, fr91, fr92, fr93, fr94, fr95, fr96, fr97, fr98, fr99, fr100, fr101, fr102, fr103, fr104, fr105, fr106, fr107, fr108, fr109, fr110, fr111, fr112, fr113, fr114, fr115, fr116, fr117, fr118, fr119, fr120, fr121, (.int .u32 r), fr123, fr124, fr125, fr126, fr127, fr128, fr129, fr130, fr131, fr132, fr133, fr134, fr135, fr136, fr137, fr138, fr139, fr140, fr141, fr142, fr143, fr144, fr145, fr146, fr147, fr148, fr149, fr150, fr151, fr152, fr153, fr154, fr155, fr156, fr157, fr158, fr159, fr160, fr161, fr162, fr163, fr164, fr165, fr166, fr167, fr168, fr169, fr170, fr171, fr172, fr173, fr174, fr175, fr176, fr177, fr178, fr179, fr180, fr181, fr182, fr183, fr184, fr185, fr186, fr187, fr188, fr189, fr190, fr191, fr192, fr193, fr194, fr195, fr196, fr197, fr198, fr199, fr200, fr201, fr202, fr203, fr204, fr205, fr206, fr207, fr208, fr209, fr210, fr211, fr212, fr213, fr214, fr215, fr216, fr217, fr218, fr219, fr220, fr221, fr222, fr223, fr224, fr225, fr226, fr227, fr228, fr229, fr230, fr231, fr232, fr233, fr234, fr235, fr236, fr237, fr238, fr239, fr240, fr241, fr242, fr243, fr244, fr245, fr246, fr247, fr248, fr249, fr250, fr251, fr252, fr253, fr254, fr255, fr256, fr257, fr258, fr259, fr260, fr261, fr262, fr263, fr264, fr265, fr266, fr267, fr268, fr269, fr270, fr271, fr272, fr273, fr274, fr275, fr276, fr277, fr278, fr279, fr280, fr281, fr282, fr283, fr284, fr285, fr286, fr287, fr288, fr289, fr290, fr291, fr292, fr293, fr294, fr295, fr296, fr297, fr298, fr299, fr300, fr301, fr302, fr303, fr304, fr305, fr306, fr307, fr308, fr309, fr310, fr311, fr312, fr313, fr314, fr315, fr316, fr317, fr318, fr319, fr320, fr321, fr322, fr323, fr324, fr325, fr326, fr327, fr328, fr329, fr330, fr331], []⟩ wr := by
  conv => arg 2; whnf
  conv => arg 4; dsimp only
  obtain ⟨hi9, hfr5, hyB, ⟨x9, ho9⟩, ⟨x10, ho10⟩⟩ := hM.rows
  have HR := Lib.hid (And.intro hM (And.intro ho9 (And.intro ho10 (And.intro hyB hfr5))))
  clear hM ho9 ho10 hyB hfr5
  have hr0I : ((r : Int) == 0) = false := by simp; omega
  have hr1I : ((r : Int) == 1) = false := by simp; omega
  have hrI0 : ((r : Int) == 2) = false := by simp; omega
  have hrI1 : ((r : Int) == 3) = false := by simp; omega
  have hrI : ((r : Int) == 4) = true := by simp; omega
  obtain ⟨cnt, hcnt⟩ : ∃ cnt, cnt = min y (len - p) := ⟨_, rfl⟩
  have hwlp : IntKind.i64.wrap ((len : Int) - (p : Int)) = (len : Int) - (p : Int) := IntWalk.i64_in _ (by omega)
  have HCNT := Lib.hid hcnt
  clear hcnt
  go_upto_region 53 with (fail)
  go_cut [27] from 122 to 249 (fun s27 w' => wr = w' ∧ s27 = .int .i64 cnt)
  case first =>
    by_cases hcy : len - p < y
    · have hcyI : (len : Int) - (p : Int) < (y : Int) := by omega
      go_wp2_with fail
      go_meet
      case rel => exact ⟨rfl, by have := HCNT.out; congr 1; omega⟩
    · have hcyI : (y : Int) ≤ (len : Int) - (p : Int) := by omega
      go_wp2_with fail
      go_meet
      case rel => exact ⟨rfl, by have := HCNT.out; congr 1; omega⟩
  case rest =>
  obtain ⟨rfl, rfl⟩ := hcut
  have hcl : p + cnt ≤ len := by have := HCNT.out; omega
  have hcnt200 : cnt ≤ 200 := by have := HCNT.out; omega
  have hcnt1 : 1 ≤ cnt := by have := HCNT.out; omega
  have hby : ∀ z, z < cnt → wr.cell? ⟨yb, p + z, none⟩ = some (U8 (d (p + z))) := by
    obtain ⟨l, hl1, hl2⟩ := HR.out.2.2.2.1
    exact fun z hz => (hl1.cell _).trans (hl2 _ (by omega))
  have HBY := Lib.hid hby
  clear hby hwlp
  go_wp2_with (at_builtin; (refine wpList_appS rfl (.tmp 250) (.tmp 254) 62 rfl 66 5 56 Tryd.underlying62 info66 (by decide) (by decide) b5 (.slice ra k rc) k x9 rfl HR.out.2.1 #[.int .i64 2, .int .i64 (cnt : Nat), .int .i64 (p : Nat), .int .i64 0, .slice none 0 0] rfl rfl (stp_one _ _ _ _ _ _ _) (by omega) hwsz ?_))
  intro v9 w8 a9 g9
  obtain ⟨ra', rc', rfl⟩ := own_slice a9
  have hs8 : b5 ≤ w8.heap.size := by have := g9.size; omega
  have hby8 : ∀ z, z < cnt → w8.cell? ⟨yb, p + z, none⟩ = some (U8 (d (p + z))) := fun z hz => g9.cell (own_off HR.out.2.1 hyl) (HBY.out z hz)
  have HA9 := Lib.hid (And.intro a9 g9)
  have HB8 := Lib.hid hby8
  clear a9 g9 hby8
  have hwpc : IntKind.i64.wrap ((p : Int) + (cnt : Int)) = (p : Int) + (cnt : Int) := IntWalk.i64_in _ (by omega)
  have hpc1 : (p : Int) ≤ (p : Int) + (cnt : Int) := by omega
  have hpc2 : (p : Int) + (cnt : Int) ≤ (yc : Int) := by omega
  have hE : ¬ yc = p := by omega
  go_wp2_with (at_builtin; (refine wpList_appB rfl (.tmp 257) (.tmp 263) rfl b5 (.slice (some ⟨w8.heap.size, 0, none⟩) 0 0) rfl (own_lit0 w8 5 _ hs8) yb p cnt (yc - p) (fun z => d (p + z)) (by first | rfl | exact congrArg (fun z => Value.slice (some ⟨yb, p, none⟩) z (yc - p)) (show ((p : Int) + (cnt : Int)).toNat - p = cnt by omega)) (fun z hz => ((Fr.refl [] w8).alloc _).cell0 (HB8.out z hz)) (by omega) (by simp; omega) ?_))
  intro v5 w9 hB9 gB
  obtain ⟨ba, bc, rfl⟩ := own_slice hB9
  have f89 : Fr [] w8 w9 := ((Fr.refl [] w8).alloc _).trans gB (by simp [Value.ownBlock])
  have o10 := own_fr0 (own_fr HR.out.2.2.1 HA9.out.2 (own_sep HR.out.2.2.1 HR.out.2.1 (by decide))) f89
  have hs9 : b5 ≤ w9.heap.size := by have := f89.size; omega
  have HB9 := Lib.hid (And.intro hB9 f89)
  have HO10 := Lib.hid o10
  clear hB9 gB f89 o10
  go_wp2_with (at_builtin; (refine wpList_appS rfl (.tmp 256) (.tmp 267) 51 rfl 55 3 40 Tryd.underlying51 info55 (by decide) (by decide) b5 (.slice ta k tc) k x10 rfl HO10.out #[.slice ba cnt bc, .int .i64 (cnt : Nat), .int .i64 0] rfl rfl (tld_one _ _ _ _ _) (by omega) hs9 ?_))
  intro v10 w10 a10 g10
  obtain ⟨ta', tc', rfl⟩ := own_slice a10
  have HA10 := Lib.hid (And.intro a10 g10)
  clear a10 g10
  go_wp2_with fail
  first | apply hQn | apply hQe | skip
  refine ⟨k + 1, i, d, by omega, rfl, ?_⟩
  exact HR.out.1.next0 (s := ⟨2, cnt, (p : Int), 0, 0, fun _ => 0⟩) (t := ⟨cnt, cnt, fun z => d (p + z)⟩) (.readat i p cnt d (by omega) hcnt200 hcl) hi9 HR.out.2.1 HR.out.2.2.1 HA9.out.1 HA9.out.2 HB9.out.2 HA10.out.1 HA10.out.2 rfl HB9.out.1
end Go.Proofs.YtokpomdfgbbhlaaDoor
