/- FnAlike: entries are those that stand in the file, whichever size sectors have (part 2 of 12). No condition but the statement's own. -/
import Derived.Deep.CutBlock
import Derived.BigRegion
import Derived.Test.YtokpomdfgbbhlaaDoorAla
set_option linter.all false
set_option linter.unusedVariables false
set_option linter.unusedSimpArgs false
set_option linter.unnecessarySimpa false
/- The contracts of spec.common and spec.mixed. -/
namespace Go.Proofs.YtokpomdfgbbhlaaDoor
open Go Go.RowKit

set_option maxHeartbeats 400000 in
theorem common_any (a b : Nat) (w : World) (ha : a ≤ 1000000) (hb : b ≤ 1000000) :
    Calls Tryd.prog 41 #[.int .i64 a, .int .i64 b] w fun e w' => e = .returned (.int .i64 (Nat.gcd a b : Nat)) ∧ Fr [] w w' := by
  go_enter Tryd.func41, Tryd.ntmps41
  go_wp2_with fail
  go_loopw [0, 1] (fun s0 s1 wr => ∃ x y : Nat, x ≤ 1000000 ∧ y ≤ 1000000 ∧ s0 = .int .i64 x ∧ s1 = .int .i64 y ∧ Nat.gcd x y = Nat.gcd a b ∧ Fr [] w wr) (fun _ s1 _ => (intOf s1).toNat)
  case atStart => exact ⟨a, b, ha, hb, rfl, rfl, rfl, Fr.refl _ _⟩
  case round =>
    obtain ⟨x, y, hx, hy, rfl, rfl, hg, hf⟩ := hrel
    have HG := Lib.hid hg
    clear hg
    by_cases h0 : y = 0
    · subst h0
      go_wp2_with fail
      go_ret
      exact ⟨by rw [← HG.out, Nat.gcd_zero_right]; rfl, hf⟩
    · have hne : ((y : Int) == 0) = false := by simp; omega
      have hy1 : (1 : Int) ≤ y := by omega
      have hm := Nat.mod_lt x (show 0 < y by omega)
      have he : (x : Int) % (y : Int) = ((x % y : Nat) : Int) := rfl
      have HE := Lib.hid he
      clear he
      go_wp2_with fail
      go_quiet (fail)
      go_wp2_with fail
      go_roundw
      case rel => exact ⟨y, x % y, hy, by omega, rfl, by rw [HE.out], by rw [← HG.out, Nat.gcd_comm x y, Nat.gcd_rec y x, Nat.gcd_comm], hf.drewN _⟩
      case measure => simp [intOf]; omega

theorem info3 : (Tryd.prog.info? 3).map (fun i => (i.zero, i.size, i.bytes)) = some (some (.int .i64 0), 1, 8) := by kernel_rfl
abbrev I64 (n : Nat) : Value := .int .i64 (n : Int)

/-- append of one value of one cell onto a row of the call's own. -/
theorem wpList_app1 {ops : Array Oper} {rest : List Oper} {o : Oper} {a : Act} {Q : Exit → Act → World → Prop} {w : World} (hgd : o.guard = none) (s x : Operand) (t : TypeId)
    (ho : o.op = .call { callee := .builtin .append, args := #[s, x], argTypes := #[t, t] }) (e : TypeId) (z : Value) (bytes : Nat) (ht : Tryd.prog.underlying t = some (.slice e))
    (hinfo : (Tryd.prog.info? e).map (fun i => (i.zero, i.size, i.bytes)) = some (some z, 1, bytes)) (hz : z.cells.size = 1) (hby : bytes ≤ 64)
    (base : Nat) (v : Value) (n : Nat) (xs : List Value) (hs : a.eval s = v) (u : Value) (hown : w.ownsRow base e 1 v n xs) (hx : a.eval x = .slice (some ⟨w.heap.size, 0, none⟩) 1 1) (hu : u.oneCell' = true)
    (hn : n ≤ 100000000) (hb : base ≤ w.heap.size)
    (h : ∀ v' w', w'.ownsRow base e 1 v' (n + 1) (xs ++ [u]) → Fr v.ownBlock.toList w w' → wpList Tryd.prog ops Q rest (a.put o.dst v') w') :
    wpList Tryd.prog ops Q (o :: rest) a (w.alloc (.cells #[u] e)) := by
  obtain ⟨i0, hi, hz0, hz1, hz2⟩ := info_parts hinfo
  refine wpList_append_own _ hgd s x t ho base e i0 z 1 bytes ht hi hz0 hz1 hz2 hz (by decide) v n xs hs (hown.alloc _) ⟨w.heap.size, 0, none⟩ 1 1 [u] hx rfl ?_ ?_ ?_ ?_ ?_ ?_
  · exact cell_one_new _ _ _
  · simpa using hu
  · unfold maxLen; omega
  · have := Nat.mul_le_mul (show n + 1 ≤ 100000001 by omega) hby
    omega
  · simp; omega
  · intro v' w' h1 h2 _
    refine h v' w' h1 ?_
    have h3 := Fr.of_grown h2
    refine (((Fr.refl [] w).alloc _).mono (by simp)).trans h3 (fun k hk => .inl hk)

theorem own_tab {w : World} {base : Nat} {e : TypeId} {v : Value} {n : Nat} {g : Nat → Value} {u : Value} (h : w.ownsRow base e 1 v (n + 1) (tab n g ++ [u])) (hu : u = g n) : w.ownsRow base e 1 v (n + 1) (tab (n + 1) g) := by
  rw [tab_snoc]
  subst hu
  exact h

theorem Fr.own {a w w' : World} {ms : List Nat} {base : Nat} {e : TypeId} {size n : Nat} {v : Value} {xs : List Value} (h : Fr ms a w) (hown : w.ownsRow base e size v n xs) (hb : a.heap.size ≤ base) (hg : Fr v.ownBlock.toList w w') : Fr ms a w' :=
  h.trans hg (fun k hk => .inr (by have := (hown.lt k (by simpa using hk)).1; omega))

set_option maxRecDepth 100000 in
set_option maxHeartbeats 1000000 in
theorem mixed_zero (step : Nat) (w : World) (hs : step ≤ 1000) :
    Calls Tryd.prog 22 #[.int .i64 0, .int .i64 step] w fun e w' => e = .returned (.slice (some ⟨w.heap.size, 0, none⟩) 0 0) ∧ w' = w.alloc (.cells #[] 3) := by
  go_enter Tryd.func22, Tryd.ntmps22
  go_wp2_with fail
  go_loop [1] (fun s1 => s1 = .int .i64 1) (fun _ => 0)
  case atStart => rfl
  case round =>
    obtain rfl := hrel
    go_wp2_with fail
    go_loop [5, 24] (fun s5 s24 => s5 = .slice (some ⟨w.heap.size, 0, none⟩) 0 0 ∧ s24 = .int .i64 0) (fun _ _ => 0)
    case atStart => exact ⟨rfl, rfl⟩
    case round =>
      obtain ⟨rfl, rfl⟩ := hrel
      go_wp2_with fail
      go_ret
      exact ⟨rfl, rfl⟩

set_option maxRecDepth 100000 in
set_option maxHeartbeats 1000000 in
theorem mixed_pos (n step : Nat) (w : World) (h1 : 1 ≤ n) (hn : n ≤ 5000) (hs : step ≤ 1000) :
    Calls Tryd.prog 22 #[.int .i64 n, .int .i64 step] w fun e w' => ∃ v, e = .returned v ∧ Fr [] w w' ∧ w'.ownsRow w.heap.size 3 1 v n (tab n (fun k => I64 (mixP n step k))) := by
  have hm0 : (0 : Int) ≤ (step : Int) % (n : Int) := by omega
  have hm1 : (step : Int) % (n : Int) < n := Int.emod_lt_of_pos _ (by omega)
  have hmn := Nat.mod_lt step (show 0 < n by omega)
  have he : 1 + (step : Int) % (n : Int) = ((1 + step % n : Nat) : Int) := by push_cast; rfl
  have HE := Lib.hid he
  clear he
  obtain ⟨hk1, hk2, hk3⟩ := mixStep_ok n step (by omega)
  have HK1 := Lib.hid hk1
  clear hk1
  go_enter Tryd.func22, Tryd.ntmps22
  go_wp2_with fail
  go_loopw [1] (fun s1 wr => ∃ s fuel : Nat, stepGo n fuel s = mixStep n step ∧ s ≤ n + 1 ∧ n + 1 ≤ s + fuel ∧ 1 ≤ s ∧ s1 = .int .i64 s ∧ Fr [] w wr) (fun s1 _ => n + 2 - (intOf s1).toNat)
  case atStart =>
    refine ⟨1 + step % n, n + 1, ?_, by omega, by omega, by omega, by rw [HE.out], Fr.refl _ _⟩
    rw [mixStep, if_neg (by omega)]
    have : max n 1 = n := by omega
    rw [this]
  case round =>
    obtain ⟨s, fuel, hgo, hs1, hs2, hs3, rfl, hf⟩ := hrel
    have HGO := Lib.hid hgo
    clear hgo
    have hcon := Lib.hid (common_any s n wr (by omega) (by omega))
    by_cases hg : Nat.gcd s n = 1
    · have hS : s = mixStep n step := by
        have := HGO.out
        cases fuel with
        | zero => exact this
        | succ fuel => rw [stepGo, if_pos hg] at this; exact this
      have hbase := hf.size
      have HS := Lib.hid hS
      clear hS
      have hgI : ((Nat.gcd s n : Nat) : Int) = 1 := by omega
      go_wp2_with (go_at_call 41; refine hcon.out.mono ?_; rintro e w1 ⟨rfl, hf1⟩)
      have hf2 : Fr [] w (w1.alloc (Obj.cells #[] 3)) := (hf.trans0 hf1).alloc _
      have ho2 : (w1.alloc (Obj.cells #[] 3)).ownsRow w.heap.size 3 1 (.slice (some ⟨w1.heap.size, 0, none⟩) 0 0) 0 [] := World.ownsRow_made w1 #[] 0 (by have := hf1.size; omega) (by unfold maxLen; omega) rfl
      clear hf hcon hg hgI hf1
      go_loopw [5, 24] (fun s5 s24 wr => ∃ k : Nat, k ≤ n ∧ s24 = .int .i64 k ∧ Fr [] w wr ∧ wr.ownsRow w.heap.size 3 1 s5 k (tab k (fun k => I64 (mixP n step k)))) (fun _ s24 _ => n - (intOf s24).toNat)
      case atStart => exact ⟨0, by omega, rfl, hf2, ho2⟩
      case round =>
        clear hf2 ho2
        obtain ⟨k, hk, rfl, hf, hown⟩ := hrel
        by_cases hlt : k < n
        · have b0 : k * s ≤ 5000 * 5001 := Nat.mul_le_mul (by omega) (by omega)
          have b1 : (0 : Int) ≤ (k : Int) * (s : Int) := by rw [← Int.natCast_mul]; omega
          have b2 : (k : Int) * (s : Int) ≤ 25005000 := by rw [← Int.natCast_mul]; omega
          have hbase := hf.size
          go_wp2_with (at_builtin; refine wpList_app1 rfl (.tmp 27) (.tmp 33) 31 rfl 3 (.int .i64 0) 8 Tryd.underlying31 info3 rfl (by decide) w.heap.size _ k _ rfl _ hown rfl rfl (by omega) hbase ?_)
          intro v' w1 hown1 hg1
          have hf1 := hf.own hown (Nat.le_refl _) hg1
          have hown2 := own_tab hown1 (by rw [mixP, ← HS.out]; show Value.int .i64 _ = Value.int .i64 _; rw [Int.natCast_emod, Int.natCast_mul])
          clear hown1 hg1 hown hf
          go_wp2_with fail
          go_roundw
          case rel => exact ⟨k + 1, by omega, by go_num, hf1, hown2⟩
          case measure => simp [intOf]; omega
        · obtain rfl : k = n := by omega
          go_wp2_with fail
          go_ret
          exact ⟨_, rfl, hf, hown⟩
    · have hgI : ((Nat.gcd s n : Nat) : Int) ≠ 1 := by omega
      have hs4 : s ≠ n + 1 := by
        rintro rfl
        exact hg (by simp)
      have hg' : ∃ fuel', fuel = fuel' + 1 ∧ stepGo n fuel' (s + 1) = mixStep n step := by
        have := HGO.out
        cases fuel with
        | zero => omega
        | succ fuel => rw [stepGo, if_neg hg] at this; exact ⟨fuel, rfl, this⟩
      obtain ⟨fuel', hfu, hg''⟩ := hg'
      have HG := Lib.hid hg''
      clear hg''
      go_wp2_with (go_at_call 41; refine hcon.out.mono ?_; rintro e w1 ⟨rfl, hf1⟩)
      go_roundw
      case rel => exact ⟨s + 1, fuel', HG.out, by omega, by omega, by omega, by go_num, hf.trans0 hf1⟩
      case measure => simp [intOf]; omega

end Go.Proofs.YtokpomdfgbbhlaaDoor

/- append onto a row of the call's own: its block is the old one or a new one. -/
namespace Go.Proofs.YtokpomdfgbbhlaaDoor
open Go Go.RowKit

theorem append_block {w w' : World} {base : Nat} {t ty e : TypeId} {i : TypeInfo} {z : Value} {size bytes : Nat} (ht : Tryd.prog.underlying t = some (.slice e)) (hi : Tryd.prog.info? e = some i) (hz : i.zero = some z)
    (hsize : i.size = size) (hby : i.bytes = bytes) {v v' : Value} {n : Nat} {xs : List Value} (hown : w.ownsRow base e size v n xs) {ad : Addr} {m c : Nat} {news : List Value} (hm : 0 < m) (hl : news.length = m * size)
    (hnews : ∀ j u, news[j]? = some u → w.cell? (ad.add j) = some u) (h1 : ∀ u ∈ news, u.oneCell' = true) (h63 : n + m ≤ maxLen) (hbytes : (n + m) * bytes ≤ 140737488355328)
    (hr : (Builtin.append_ #[t, t] ty #[v, .slice (some ad) m c]).run Tryd.prog w = .ok v' w') : ∀ g, v'.ownBlock = some g → v.ownBlock = some g ∨ g = w.heap.size := by
  subst hsize
  subst hby
  have hsm : n + m ≤ 9223372036854775807 := by simp only [maxLen] at h63; omega
  rcases hown.2 with ⟨rfl, rfl⟩ | ⟨b, cap, cur, rfl, hbg, hg, hnc, hcm, hcs, htake⟩
  · have h := run_append_nil (P := Tryd.prog) w t ty e i z ht hi hz ad m c news hl hnews hm (by omega) (by have hb := hbytes; simp only [Nat.zero_add] at hb; omega)
    rw [h] at hr
    cases hr
    intro g hg
    simp [Value.ownBlock] at hg
    exact .inr hg.symm
  · by_cases hroom : n + m ≤ cap
    · have hfit : n * i.size + news.length ≤ cur.size := by rw [hl, hcs, ← Nat.add_mul]; exact Nat.mul_le_mul_right _ hroom
      have h := run_append_room (P := Tryd.prog) w t ty e i ht hi b n cap cur hg ad m c news hl hnews h1 hroom hfit
      rw [h] at hr
      cases hr
      intro g hg
      exact .inl hg
    · have h := run_append_grow (P := Tryd.prog) w t ty e i z ht hi hz ⟨b, 0, none⟩ n cap xs hown.1 (hown.cells (g := b) rfl) ad m c news hl hnews (by omega) (by omega) (growslice_fits (by omega) hbytes)
      rw [h] at hr
      cases hr
      intro g hg
      simp [Value.ownBlock] at hg
      exact .inr hg.symm

/-- append of some cells onto a row of the call's own. -/
theorem wpList_app {ops : Array Oper} {rest : List Oper} {o : Oper} {a : Act} {Q : Exit → Act → World → Prop} {w : World} (hgd : o.guard = none) (s x : Operand) (t : TypeId)
    (ho : o.op = .call { callee := .builtin .append, args := #[s, x], argTypes := #[t, t] }) (e : TypeId) (i : TypeInfo) (z : Value) (size bytes : Nat) (ht : Tryd.prog.underlying t = some (.slice e))
    (hi : Tryd.prog.info? e = some i) (hz : i.zero = some z) (hsize : i.size = size) (hby : i.bytes = bytes) (hzs : z.cells.size = size) (hsz : 0 < size) (hb64 : bytes ≤ 1000)
    (base : Nat) (v : Value) (n : Nat) (xs : List Value) (hs : a.eval s = v) (hown : w.ownsRow base e size v n xs) (ad : Addr) (m c : Nat) (news : List Value) (hx : a.eval x = .slice (some ad) m c) (hm : 0 < m) (hl : news.length = m * size)
    (hnews : ∀ j u, news[j]? = some u → w.cell? (ad.add j) = some u) (h1 : ∀ u ∈ news, u.oneCell' = true) (hn : n + m ≤ 1000000) (hb : base ≤ w.heap.size)
    (h : ∀ v' w', w'.ownsRow base e size v' (n + m) (xs ++ news) → Fr v.ownBlock.toList w w' → (∀ g, v'.ownBlock = some g → v.ownBlock = some g ∨ w.heap.size ≤ g) → wpList Tryd.prog ops Q rest (a.put o.dst v') w') :
    wpList Tryd.prog ops Q (o :: rest) a w := by
  refine wpList_plain hgd fun K hK => ?_
  have h63 : n + m ≤ maxLen := by unfold maxLen; omega
  have hbt : (n + m) * bytes ≤ 140737488355328 := by
    have := Nat.mul_le_mul hn hb64
    omega
  obtain ⟨v', w', hr, h2, h3, _⟩ := run_append_own (P := Tryd.prog) w base t o.type e i z size bytes ht hi hz hsize hby hzs hsz v n xs hown ad m c news hl hnews h1 h63 hbt hb
  have h5 := append_block ht hi hz hsize hby hown hm hl hnews h1 h63 hbt hr
  unfold Oper.wp execOp
  simp only [ho, resolve, invoke, builtin, Sem.run_bind, Sem.run_pure, Result.andThen_ok, List.map_toArray, List.map_cons, List.map_nil, hs, hx, hr]
  exact hK _ _ (h v' w' h2 (Fr.of_grown h3) (fun g hg => (h5 g hg).imp id (fun e => by omega)))

/-- append of one value of one cell onto a row of the call's own. -/
theorem wpList_app2 {ops : Array Oper} {rest : List Oper} {o : Oper} {a : Act} {Q : Exit → Act → World → Prop} {w : World} (hgd : o.guard = none) (s x : Operand) (t : TypeId)
    (ho : o.op = .call { callee := .builtin .append, args := #[s, x], argTypes := #[t, t] }) (e : TypeId) (z : Value) (bytes : Nat) (ht : Tryd.prog.underlying t = some (.slice e))
    (hinfo : (Tryd.prog.info? e).map (fun i => (i.zero, i.size, i.bytes)) = some (some z, 1, bytes)) (hz : z.cells.size = 1) (hby : bytes ≤ 64)
    (base : Nat) (v : Value) (n : Nat) (xs : List Value) (hs : a.eval s = v) (u : Value) (hown : w.ownsRow base e 1 v n xs) (hx : a.eval x = .slice (some ⟨w.heap.size, 0, none⟩) 1 1) (hu : u.oneCell' = true)
    (hn : n ≤ 100000) (hb : base ≤ w.heap.size)
    (h : ∀ v' w', w'.ownsRow base e 1 v' (n + 1) (xs ++ [u]) → Fr v.ownBlock.toList w w' → (∀ g, v'.ownBlock = some g → v.ownBlock = some g ∨ w.heap.size ≤ g) → wpList Tryd.prog ops Q rest (a.put o.dst v') w') :
    wpList Tryd.prog ops Q (o :: rest) a (w.alloc (.cells #[u] e)) := by
  obtain ⟨i0, hi, hz0, hz1, hz2⟩ := info_parts hinfo
  refine wpList_app hgd s x t ho e i0 z 1 bytes ht hi hz0 hz1 hz2 hz (by decide) (by omega) base v n xs hs (hown.alloc _) ⟨w.heap.size, 0, none⟩ 1 1 [u] hx (by omega) rfl ?_ ?_ (by omega) ?_ ?_
  · exact cell_one_new _ _ _
  · simpa using hu
  · simp; omega
  · intro v' w' h1 h2 h3
    refine h v' w' h1 ?_ ?_
    · exact (((Fr.refl [] w).alloc _).mono (by simp)).trans h2 (fun k hk => .inl hk)
    · intro g hg
      rcases h3 g hg with h4 | h4
      · exact .inl h4
      · right; simp at h4; omega

/-- The same as a step of a region that draws its order. -/
theorem step_app {ops : Array Oper} {o : Oper} {a : Act} {w : World} {K : Act → World → Prop} {Q : Exit → Act → World → Prop} {E : Prop} (hgd : o.guard = none) (s x : Operand) (t : TypeId)
    (ho : o.op = .call { callee := .builtin .append, args := #[s, x], argTypes := #[t, t] }) (e : TypeId) (i : TypeInfo) (z : Value) (size bytes : Nat) (ht : Tryd.prog.underlying t = some (.slice e))
    (hi : Tryd.prog.info? e = some i) (hz : i.zero = some z) (hsize : i.size = size) (hby : i.bytes = bytes) (hzs : z.cells.size = size) (hsz : 0 < size) (hb64 : bytes ≤ 1000)
    (base : Nat) (v : Value) (n : Nat) (xs : List Value) (hs : a.eval s = v) (hown : w.ownsRow base e size v n xs) (ad : Addr) (m c : Nat) (news : List Value) (hx : a.eval x = .slice (some ad) m c) (hm : 0 < m) (hl : news.length = m * size)
    (hnews : ∀ j u, news[j]? = some u → w.cell? (ad.add j) = some u) (h1 : ∀ u ∈ news, u.oneCell' = true) (hn : n + m ≤ 1000000) (hb : base ≤ w.heap.size)
    (h : ∀ v' w', w'.ownsRow base e size v' (n + m) (xs ++ news) → Fr v.ownBlock.toList w w' → (∀ g, v'.ownBlock = some g → v.ownBlock = some g ∨ w.heap.size ≤ g) → K (a.put o.dst v') w') :
    if Region.wanted o (yielded ops a.tmps) = true then Oper.wp Tryd.prog o a w K Q else E := by
  have hw : Region.wanted o (yielded ops a.tmps) = true := by simp [Region.wanted, hgd]
  rw [if_pos hw]
  have h63 : n + m ≤ maxLen := by unfold maxLen; omega
  have hbt : (n + m) * bytes ≤ 140737488355328 := by
    have := Nat.mul_le_mul hn hb64
    omega
  obtain ⟨v', w', hr, h2, h3, _⟩ := run_append_own (P := Tryd.prog) w base t o.type e i z size bytes ht hi hz hsize hby hzs hsz v n xs hown ad m c news hl hnews h1 h63 hbt hb
  have h5 := append_block ht hi hz hsize hby hown hm hl hnews h1 h63 hbt hr
  unfold Oper.wp execOp
  simp only [ho, resolve, invoke, builtin, Sem.run_bind, Sem.run_pure, Result.andThen_ok, List.map_toArray, List.map_cons, List.map_nil, hs, hx, hr]
  exact h v' w' h2 (Fr.of_grown h3) (fun g hg => (h5 g hg).imp id (fun e => by omega))
end Go.Proofs.YtokpomdfgbbhlaaDoor

/- The contract of spec.chained. -/
namespace Go.Proofs.YtokpomdfgbbhlaaDoor
open Go Go.RowKit

/-- Whole numbers in a slice at a block's head. -/
def Ints (w : World) (base : Nat) (v : Value) (n : Nat) (g : Nat → Nat) : Prop :=
  ∃ b cap l, v = .slice (some ⟨b, 0, none⟩) n cap ∧ base ≤ b ∧ n ≤ cap ∧ cap ≤ 9223372036854775807 ∧ Blk w b 3 l ∧ ∀ i, i < n → l[i]? = some (I64 (g i))

theorem Ints.fr {w w' : World} {base : Nat} {v : Value} {n : Nat} {g : Nat → Nat} {ms : List Nat} (h : Ints w base v n g) (f : Fr ms w w') (hm : ∀ b l, Blk w b 3 l → base ≤ b → b ∉ ms) : Ints w' base v n g := by
  obtain ⟨b, cap, l, h1, h2, h3, h4, h5, h6⟩ := h
  exact ⟨b, cap, l, h1, h2, h3, h4, h5.fr f (hm b l h5 h2), h6⟩
theorem Ints.fr0 {w w' : World} {base : Nat} {v : Value} {n : Nat} {g : Nat → Nat} (h : Ints w base v n g) (f : Fr [] w w') : Ints w' base v n g := h.fr f (by simp)
theorem Ints.of_own {w : World} {base : Nat} {v : Value} {n : Nat} {g : Nat → Nat} (h : w.ownsRow base 3 1 v n (tab n (fun k => I64 (g k)))) (hn : 1 ≤ n) : Ints w base v n g := by
  obtain ⟨b, cap, l, h1, h2, h3, h4, h5, h6⟩ := own_blk2 h hn
  exact ⟨b, cap, l, h1, h2, h5, h6, h3, h4⟩
theorem Ints.congr {w : World} {base : Nat} {v : Value} {n : Nat} {g g' : Nat → Nat} (h : Ints w base v n g) (hg : ∀ i, i < n → g i = g' i) : Ints w base v n g' := by
  obtain ⟨b, cap, l, h1, h2, h3, h4, h5, h6⟩ := h
  exact ⟨b, cap, l, h1, h2, h3, h4, h5, fun i hi => by rw [← hg i hi]; exact h6 i hi⟩
theorem Ints.mono {w : World} {base base' : Nat} {v : Value} {n : Nat} {g : Nat → Nat} (h : Ints w base v n g) (hb : base' ≤ base) : Ints w base' v n g := by
  obtain ⟨b, cap, l, h1, h2, h3, h4, h5, h6⟩ := h
  exact ⟨b, cap, l, h1, by omega, h3, h4, h5, h6⟩

theorem mixed_ints (n step : Nat) (w : World) (hn : n ≤ 5000) (hs : step ≤ 1000) :
    Calls Tryd.prog 22 #[.int .i64 n, .int .i64 step] w fun e w' => ∃ v, e = .returned v ∧ Fr [] w w' ∧ Ints w' w.heap.size v n (mixP n step) := by
  by_cases h0 : n = 0
  · subst h0
    refine (mixed_zero step w hs).mono ?_
    rintro e w' ⟨rfl, rfl⟩
    exact ⟨_, rfl, (Fr.refl _ _).alloc _, w.heap.size, 0, [], rfl, Nat.le_refl _, by omega, by omega, Blk.new' _ _ _, fun i hi => by omega⟩
  · refine (mixed_pos n step w (by omega) hn hs).mono ?_
    rintro e w' ⟨v, rfl, hf, h⟩
    exact ⟨v, rfl, hf, Ints.of_own h (by omega)⟩

/-- A table of sectors. -/
def Tbl (w : World) (b n : Nat) (T : Nat → Nat) : Prop := Blk w b 63 (tab n (fun p => .int .u32 (T p : Nat)))
theorem Tbl.set {w : World} {b n : Nat} {T : Nat → Nat} (h : Tbl w b n T) (p : Nat) (x : Nat) : Tbl (w.setCell ⟨b, p, none⟩ (.int .u32 (x : Nat))) b n (fun q => if q = p then x else T q) := by
  have := Blk.set h p (.int .u32 (x : Nat))
  rw [tab_set] at this
  unfold Tbl
  rw [tab_congr (g' := fun j => if j = p then .int .u32 (x : Nat) else .int .u32 (T j : Nat)) (fun i _ => by show Value.int .u32 ((if i = p then x else T i : Nat) : Int) = _; split <;> rfl)]
  exact this

/-- A table when k entries of a chain of n from place f on are laid. -/
def chT (pl : Nat → Nat) (f n : Nat) (T : Nat → Nat) : Nat → Nat → Nat
  | 0 => T
  | k + 1 => fun q => if q = pl (f + k) then (if k + 1 = n then 4294967294 else pl (f + k + 1)) else chT pl f n T k q
/-- A table when c chains are laid. -/
def chAll (pl cnt : Nat → Nat) (f : Nat) (T : Nat → Nat) : Nat → Nat → Nat
  | 0 => T
  | c + 1 => chT pl (f + sumN cnt c) (cnt c) (chAll pl cnt f T c) (cnt c)
def chStart (pl cnt : Nat → Nat) (f c : Nat) : Nat := if cnt c = 0 then 4294967294 else pl (f + sumN cnt c)

set_option maxRecDepth 100000 in
set_option maxHeartbeats 2000000 in
theorem chained_any (tb tn tc pb np pc f cb nc cc : Nat) (T pl cnt : Nat → Nat) (lp lc : List Value) (w : World) (ht : Tbl w tb tn T) (hp : Blk w pb 3 lp) (hpl : ∀ i, i < np → lp[i]? = some (I64 (pl i)))
    (hc : Blk w cb 3 lc) (hcl : ∀ i, i < nc → lc[i]? = some (I64 (cnt i))) (hsum : f + sumN cnt nc ≤ np) (hlt : ∀ i, i < np → pl i < tn) (htn : tn ≤ 1000000) (hnp : np ≤ 1000000) (hnc : nc ≤ 1000000) (htc : tn ≤ tc ∧ tc ≤ 9223372036854775807)
    (hpc : np ≤ pc ∧ pc ≤ 9223372036854775807) (hcc : nc ≤ cc ∧ cc ≤ 9223372036854775807) :
    Calls Tryd.prog 23 #[.slice (some ⟨tb, 0, none⟩) tn tc, .slice (some ⟨pb, 0, none⟩) np pc, .int .i64 f, .slice (some ⟨cb, 0, none⟩) nc cc] w fun e w' => ∃ v, e = .returned v ∧ Fr [tb] w w' ∧
      Tbl w' tb tn (chAll pl cnt f T nc) ∧ w'.ownsRow w.heap.size 3 1 v nc (tab nc (fun c => I64 (chStart pl cnt f c))) := by
  have htp : pb ≠ tb := fun h => by subst h; exact absurd (hp.unique ht).1 (by decide)
  have htcb : cb ≠ tb := fun h => by subst h; exact absurd (hc.unique ht).1 (by decide)
  have htb := Blk.lt ht
  have HS := Lib.hid hsum
  have HL := Lib.hid hlt
  have HPL := Lib.hid hpl
  have HCL := Lib.hid hcl
  clear hsum hlt hpl hcl
  go_enter Tryd.func23, Tryd.ntmps23
  go_wp2_with fail
  have hf2 : Fr [] w (w.alloc (Obj.cells #[] 3)) := (Fr.refl _ _).alloc _
  have ho2 : (w.alloc (Obj.cells #[] 3)).ownsRow w.heap.size 3 1 (.slice (some ⟨w.heap.size, 0, none⟩) 0 0) 0 [] := World.ownsRow_made w #[] 0 (Nat.le_refl _) (by unfold maxLen; omega) rfl
  have ht2 : Tbl (w.alloc (Obj.cells #[] 3)) tb tn T := Blk.fr0 ht hf2
  go_loopw [2, 9, 16] (fun s2 s9 s16 wr => ∃ c : Nat, c ≤ nc ∧ s16 = .int .i64 c ∧ s2 = .int .i64 ((f + sumN cnt c : Nat) : Int) ∧ Fr [tb] w wr ∧ Tbl wr tb tn (chAll pl cnt f T c) ∧ wr.ownsRow w.heap.size 3 1 s9 c (tab c (fun c => I64 (chStart pl cnt f c)))) (fun _ _ s16 _ => nc - (intOf s16).toNat)
  case atStart => exact ⟨0, by omega, rfl, rfl, hf2.mono (by simp), ht2, ho2⟩
  case round =>
    clear hf2 ho2 ht2
    obtain ⟨c, hcn, rfl, rfl, hfr, htb1, hown⟩ := hrel
    by_cases hlt : c < nc
    · have hS1 : f + sumN cnt c + cnt c ≤ np := by
        have h1 := HS.out
        have h2 := sumN_mono cnt (show c + 1 ≤ nc by omega)
        rw [sumN] at h2
        omega
      have hcs : chStart pl cnt f c = if cnt c = 0 then 4294967294 else pl (f + sumN cnt c) := rfl
      have hns : f + sumN cnt (c + 1) = f + sumN cnt c + cnt c := by rw [sumN]; omega
      have hch : chAll pl cnt f T (c + 1) = chT pl (f + sumN cnt c) (cnt c) (chAll pl cnt f T c) (cnt c) := rfl
      have HCS := Lib.hid hcs
      have HNS := Lib.hid hns
      have HCH := Lib.hid hch
      clear hcs hns hch
      have hcc1 : wr.cell? ⟨cb, c, none⟩ = some (I64 (cnt c)) := (hfr.cell (by simpa using htcb) ((hc.cell c).trans (HCL.out c hlt)))
      generalize hbs : f + sumN cnt c = F0 at *
      have hbase := hfr.size
      have hltI : (c : Int) < nc := by omega
      generalize hq : cnt c = q at *
      have hna := own_ne hown htb1 (by decide)
      by_cases h0 : q = 0
      · have h0B : ((q : Int) == 0) = true := by simp [h0]
        go_wp2_with (at_builtin; refine wpList_app1 rfl (.tmp 22) (.tmp 23) 31 rfl 3 (.int .i64 0) 8 Tryd.underlying31 info3 rfl (by decide) w.heap.size _ c _ rfl _ hown rfl rfl (by omega) hbase ?_)
        intro v' w1 hown1 hg1
        have hf1 := hfr.own hown (Nat.le_refl _) hg1
        have hown2 := own_tab hown1 (by rw [HCS.out, if_pos h0]; rfl)
        have ht1 : Tbl w1 tb tn (chAll pl cnt f T (c + 1)) := by
          rw [HCH.out, h0]
          exact Blk.fr htb1 hg1 hna
        clear hown1 hg1 hown hfr hna htb1
        go_wp2_with fail
        go_roundw
        case rel => exact ⟨c + 1, by omega, by go_num, by rw [HNS.out, h0]; rfl, hf1, ht1, hown2⟩
        case measure => simp [intOf]; omega
      · have h0B : ((q : Int) == 0) = false := by simp; omega
        have hpf : wr.cell? ⟨pb, F0, none⟩ = some (I64 (pl F0)) := (hfr.cell (by simpa using htp) ((hp.cell _).trans (HPL.out _ (by omega))))
        go_wp2_with (at_builtin; refine wpList_app1 rfl (.tmp 25) (.tmp 30) 31 rfl 3 (.int .i64 0) 8 Tryd.underlying31 info3 rfl (by decide) w.heap.size _ c _ rfl _ hown rfl rfl (by omega) hbase ?_)
        intro v' w1 hown1 hg1
        have hf1 := hfr.own hown (Nat.le_refl _) hg1
        have hown2 := own_tab hown1 (by rw [HCS.out, if_neg h0])
        have ht1 : Tbl w1 tb tn (chAll pl cnt f T c) := Blk.fr htb1 hg1 hna
        clear hown1 hg1 hown hfr hna htb1 hpf hcc1
        go_wp2_with fail
        go_loopw [2, 33] (fun s2 s33 wi => ∃ k : Nat, k ≤ q ∧ s33 = .int .i64 k ∧ s2 = .int .i64 ((F0 + k : Nat) : Int) ∧ Fr [tb] w1 wi ∧ Tbl wi tb tn (chT pl F0 q (chAll pl cnt f T c) k)) (fun _ s33 _ => q - (intOf s33).toNat)
        case atStart => exact ⟨0, by omega, rfl, rfl, Fr.refl _ _, ht1⟩
        case round =>
          clear ht1
          obtain ⟨k, hkq, rfl, rfl, hfi, hti⟩ := hrel
          by_cases hk : k < q
          · have hpl := HL.out (F0 + k) (by omega)
            have hpk : wr.cell? ⟨pb, F0 + k, none⟩ = some (I64 (pl (F0 + k))) := ((hf1.trans_same hfi).cell (by simpa using htp) ((hp.cell _).trans (HPL.out _ (by omega))))
            have htk : wr.cell? ⟨tb, pl (F0 + k), none⟩ = some (.int .u32 (chT pl F0 q (chAll pl cnt f T c) k (pl (F0 + k)) : Nat)) := (Blk.cell hti _).trans (tab_get _ _ _ hpl)
            have htz := Blk.frozen hti (pl (F0 + k))
            by_cases hl : k + 1 = q
            · have hkB : ((k : Int) == (q : Int) - 1) = true := by simp; omega
              go_wp2_with fail
              go_roundw
              case rel =>
                refine ⟨k + 1, by omega, by go_num, by rw [← Nat.add_assoc]; go_num, hfi.setCell (.inl (by simp)) _, ?_⟩
                have := Tbl.set hti (pl (F0 + k)) 4294967294
                unfold Tbl at this ⊢
                rw [tab_congr (g' := fun j => .int .u32 ((chT pl F0 q (chAll pl cnt f T c) (k + 1) j : Nat) : Int)) (fun i _ => by rw [chT]; show _ = Value.int .u32 ((if i = _ then (if k + 1 = q then _ else _) else _ : Nat) : Int); rw [if_pos hl])] at this
                exact this
              case measure => simp [intOf]; omega
            · have hkB : ((k : Int) == (q : Int) - 1) = false := by simp; omega
              have hpl2 := HL.out (F0 + k + 1) (by omega)
              have hpk2 : wr.cell? ⟨pb, F0 + k + 1, none⟩ = some (I64 (pl (F0 + k + 1))) := ((hf1.trans_same hfi).cell (by simpa using htp) ((hp.cell _).trans (HPL.out _ (by omega))))
              go_wp2_with fail
              go_region
              go_wp2_with fail
              go_roundw
              case rel =>
                refine ⟨k + 1, by omega, by go_num, by rw [← Nat.add_assoc]; go_num, (hfi.drewN _).setCell (.inl (by simp)) _, ?_⟩
                have := Tbl.set hti (pl (F0 + k)) (pl (F0 + k + 1))
                unfold Tbl at this ⊢
                rw [tab_congr (g' := fun j => .int .u32 ((chT pl F0 q (chAll pl cnt f T c) (k + 1) j : Nat) : Int)) (fun i _ => by rw [chT]; show _ = Value.int .u32 ((if i = _ then (if k + 1 = q then _ else _) else _ : Nat) : Int); rw [if_neg hl])] at this
                exact this
              case measure => simp [intOf]; omega
          · obtain rfl : k = q := by omega
            have hown3 := own_fr hown2 hfi (fun j hj => by simp; rintro rfl; have := (hown2.lt _ hj).1; omega)
            have hf3 := hf1.trans_same hfi
            go_wp2_with fail
            go_roundw
            case rel => exact ⟨c + 1, by omega, by go_num, by rw [HNS.out], hf3, by rw [HCH.out]; exact hti, hown3⟩
            case measure => simp [intOf]; omega
    · obtain rfl : c = nc := by omega
      go_wp2_with fail
      go_ret
      exact ⟨_, rfl, hfr, htb1, hown⟩
end Go.Proofs.YtokpomdfgbbhlaaDoor

/- The contracts of spec.Write's two closures: sector, fill. -/
namespace Go.Proofs.YtokpomdfgbbhlaaDoor
open Go Go.RowKit

set_option maxHeartbeats 400000 in
theorem sector_any (p ob zb outb n sz A : Nat) (w : World) (ho : w.cell? ⟨ob, 0, none⟩ = some (.slice (some ⟨outb, 0, none⟩) n n)) (hz : w.cell? ⟨zb, 0, none⟩ = some (I64 sz))
    (hA : sz * (1 + p) = A) (hn : A + sz ≤ n) (hs : 1 ≤ sz) (hs2 : sz ≤ 5000) (hp : p ≤ 100000) (hnn : n ≤ 1000000000) :
    Calls Tryd.prog 24 #[.int .i64 p, .pointer (some ⟨ob, 0, none⟩), .pointer (some ⟨zb, 0, none⟩)] w fun e w' => e = .returned (.slice (some ⟨outb, A, none⟩) sz (n - A)) ∧ w = w' := by
  have e1 : (sz : Int) * (1 + (p : Int)) = (A : Int) := by rw [← hA]; push_cast; rfl
  have e2 : (sz : Int) * (2 + (p : Int)) = (A : Int) + sz := by
    have : (2 + (p : Int)) = (1 + (p : Int)) + 1 := by omega
    rw [this, Int.mul_add, e1, Int.mul_one]
  have b1 : (0 : Int) ≤ (sz : Int) * (1 + (p : Int)) := by rw [e1]; omega
  have b2 : (sz : Int) * (1 + (p : Int)) ≤ 1000000000 := by rw [e1]; omega
  have b3 : (0 : Int) ≤ (sz : Int) * (2 + (p : Int)) := by rw [e2]; omega
  have b4 : (sz : Int) * (2 + (p : Int)) ≤ 2000000000 := by rw [e2]; omega
  have hcap : ¬ n = A := by omega
  clear hA
  go_enter Tryd.func24, Tryd.ntmps24
  go_wp2_with fail
  go_ret
  refine ⟨?_, rfl⟩
  show Ending.returned (Value.slice _ (A + sz - A) _) = _
  rw [Nat.add_sub_cancel_left]

theorem Bts.splice {w : World} {b n : Nat} {f g : Nat → UInt8} {off m : Nat} (hm : off + m ≤ n) (h : Blk w b 5 (splice (tab n (fun i => U8 (f i))) off (tab m (fun i => U8 (g i))))) : Bts w b n (cpy f off m g) := by
  rw [tab_splice _ _ _ _ _ hm] at h
  unfold Bts
  rw [tab_congr (g' := fun i => if off ≤ i ∧ i < off + m then U8 (g (i - off)) else U8 (f i)) (fun i _ => by unfold cpy; split <;> rfl)]
  exact h

/-- The file's bytes when k sectors of a chain are filled. -/
def fillF (f : Nat → UInt8) (sz len : Nat) (ps : Nat → Nat) (g : Nat → UInt8) : Nat → Nat → UInt8
  | 0 => f
  | k + 1 => cpy (fillF f sz len ps g k) (sz * (1 + ps k)) (min (len - k * sz) sz) (fun x => g (k * sz + x))

set_option maxRecDepth 100000 in
set_option maxHeartbeats 1000000 in
theorem fill_any (st tb tfb tn tc xb ob zb outb n sz len cap bb bo m : Nat) (T ps : Nat → Nat) (f g : Nat → UInt8) (ba : Option Addr) (w : World)
    (ho : w.cell? ⟨ob, 0, none⟩ = some (.slice (some ⟨outb, 0, none⟩) n n)) (hz : w.cell? ⟨zb, 0, none⟩ = some (I64 sz))
    (hx : w.cell? ⟨xb, 0, none⟩ = some (.func (.func 24) #[] #[.pointer (some ⟨ob, 0, none⟩), .pointer (some ⟨zb, 0, none⟩)]))
    (htc : w.cell? ⟨tfb, 0, none⟩ = some (.slice (some ⟨tb, 0, none⟩) tn tc)) (ht : Tbl w tb tn T) (hf : Bts w outb n f)
    (hne : ob ≠ outb ∧ zb ≠ outb ∧ xb ≠ outb ∧ tfb ≠ outb ∧ bb ≠ outb) (hsz : sz = 512 ∨ sz = 4096) (hm : m = partsN len sz)
    (hst : 0 < len → st = ps 0) (hps : ∀ k, k + 1 < m → T (ps k) = ps (k + 1)) (hlt : ∀ k, k < m → ps k < tn ∧ ps k ≤ 100000 ∧ sz * (1 + ps k) + sz ≤ n) (hn : n ≤ 1000000000)
    (hT : ∀ p, p < tn → T p < 4294967296) (hstb : st < 4294967296)
    (hlen : len ≤ cap ∧ cap ≤ 9223372036854775807) (hba : 0 < len → ba = some ⟨bb, bo, none⟩) (hb : ∀ i, i < len → w.cell? ⟨bb, bo + i, none⟩ = some (U8 (g i))) :
    Calls Tryd.prog 25 #[.int .i64 st, .slice ba len cap, .pointer (some ⟨tfb, 0, none⟩), .pointer (some ⟨xb, 0, none⟩)] w fun e w' => e = .returned (.tuple #[]) ∧ Fr [outb] w w' ∧ Bts w' outb n (fillF f sz len ps g m) := by
  obtain ⟨n1, n2, n3, n4, n5⟩ := hne
  have htb : tb ≠ outb := fun h => by subst h; exact absurd (Blk.unique ht hf).1 (by decide)
  have HM := Lib.hid hm
  have HSt := Lib.hid hst
  have HPS := Lib.hid hps
  have HLT := Lib.hid hlt
  have HT := Lib.hid hT
  have HBA := Lib.hid hba
  have HB := Lib.hid hb
  have HSZ := Lib.hid hsz
  have hs1 : 512 ≤ sz := by omega
  have hs2 : sz ≤ 4096 := by omega
  clear hm hst hps hlt hT hba hb hsz
  go_enter Tryd.func25, Tryd.ntmps25
  go_wp2_with fail
  go_loopw [1, 6] (fun s1 s6 wr => ∃ (k p : Nat) (a : Option Addr) (cp : Nat), k ≤ m ∧ s6 = .int .i64 p ∧ p < 4294967296 ∧ (k * sz < len → p = ps k) ∧ s1 = .slice a (len - k * sz) cp ∧ len - k * sz ≤ cp ∧ cp ≤ 9223372036854775807 ∧ (k * sz < len → a = some ⟨bb, bo + k * sz, none⟩) ∧
    Fr [outb] w wr ∧ Bts wr outb n (fillF f sz len ps g k) ∧ (k < m ∨ len ≤ k * sz)) (fun s1 _ _ => lenOf s1)
  case atStart =>
    refine ⟨0, st, ba, cap, by omega, rfl, hstb, fun h => HSt.out (by omega), by simp, by omega, hlen.2, fun h => by rw [HBA.out (by omega)]; simp, Fr.refl _ _, hf, ?_⟩
    by_cases h : len = 0
    · right; omega
    · left
      rw [HM.out]
      exact partsN_pos (by omega) (by omega)
  case round =>
    obtain ⟨k, p, a, cp, hkm, rfl, hpb, hpk, rfl, hcp, hcp2, ha, hfr, hbt, hkd⟩ := hrel
    by_cases hlt : k * sz < len
    · have hp := hpk hlt
      subst hp
      obtain rfl := ha hlt
      clear hpk ha
      have hkm2 : k < m := by rcases hkd with h | h <;> omega
      obtain ⟨l1, l2, l3⟩ := HLT.out k hkm2
      have c1 := hfr.cell (by simpa using n1) ho
      have c2 := hfr.cell (by simpa using n2) hz
      have c3 := hfr.cell (by simpa using n3) hx
      have c4 := hfr.cell (by simpa using n4) htc
      have t1 : Tbl wr tb tn T := Blk.fr ht hfr (by simpa using htb)
      generalize hks : k * sz = ks at *
      generalize hA : sz * (1 + ps k) = A at *
      have hlI : (0 : Int) < ((len - ks : Nat) : Int) := by omega
      have hfl : fillF f sz len ps g (k + 1) = cpy (fillF f sz len ps g k) A (min (len - ks) sz) (fun x => g (ks + x)) := by rw [fillF, hks, hA]
      have hks1 : (k + 1) * sz = ks + sz := by rw [Nat.add_mul, hks]; omega
      have HFL := Lib.hid hfl
      have HKS := Lib.hid hks1
      have HKS0 := Lib.hid hks
      clear hfl hks1 hks
      obtain ⟨mn, hmn⟩ : ∃ mn, min (len - ks) sz = mn := ⟨_, rfl⟩
      rw [hmn] at HFL
      have hmn1 : mn ≤ len - ks ∧ mn ≤ sz ∧ (mn = len - ks ∨ mn = sz) := by omega
      clear hmn
      have hbk : Blk wr outb 5 (tab n (fun i => U8 (fillF f sz len ps g k i))) := hbt
      go_wp2_with fail
      refine (sector_any (ps k) ob zb outb n sz A wr c1 c2 hA l3 (by omega) (by omega) (by omega) hn).mono ?_
      rintro e w1 ⟨rfl, rfl⟩
      go_wp2_with (with_reducible refine wpList_copy_blk rfl (.tmp 19) (.tmp 20) 23 23 rfl 5 Tryd.underlying23 (by kernel_rfl) _ _ _ _ _ _ rfl rfl outb A _ 5 hbk mn (fun i => U8 (g (ks + i))) ?_ ?_ ?_ ?_ ?_)
      · exact hmn1
      · intro _ j hj
        rw [Nat.add_assoc]
        exact hfr.cell (by simpa using n5) (HB.out _ (by omega))
      · rw [tab_length]; omega
      · intro j _; rfl
      · intro w1 hf1 hb1
        have hb2 := Bts.splice (by omega) hb1
        have t2 : Tbl w1 tb tn T := Blk.fr t1 hf1 (by simpa using htb)
        have t3 : w1.cell? ⟨tb, ps k, none⟩ = some (.int .u32 (T (ps k) : Nat)) := (Blk.cell t2 _).trans (tab_get _ _ _ l1)
        have c5 := hf1.cell (by simpa using n4) c4
        have hf2 := hfr.trans_same hf1
        have hTp := HT.out _ l1
        clear hb1 hfr hbt hbk t1 c1 c2 c3 c4 hf1
        have hlm := le_partsN len sz (by omega)
        rw [← HM.out] at hlm
        have hnx : ks + sz < len → k + 1 < m := by
          intro h
          rcases Nat.lt_or_ge (k + 1) m with h1 | h1
          · exact h1
          · have h2 := Nat.mul_le_mul_right sz h1
            rw [HKS.out] at h2
            omega
        have HNX := Lib.hid hnx
        have HLM := Lib.hid hlm
        clear hnx hlm
        have hle : len - ks - mn = len - (k + 1) * sz := by rw [HKS.out]; omega
        have HLE := Lib.hid hle
        clear hle
        by_cases hcm : cp = mn
        · go_wp2_with fail
          go_roundw
          case rel =>
            refine ⟨k + 1, T (ps k), some ⟨bb, bo + ks, none⟩, 0, by omega, rfl, hTp, ?_, by rw [HLE.out], ?_, by omega, ?_, hf2, by rw [HFL.out]; exact hb2, ?_⟩
            · intro h; rw [HKS.out] at h; omega
            · rw [HKS.out]; omega
            · intro h; rw [HKS.out] at h; omega
            · right; rw [HKS.out]; omega
          case measure => simp only [lenOf]; omega
        · have hcm2 : ¬ cp = mn := hcm
          go_wp2_with fail
          go_roundw
          case rel =>
            refine ⟨k + 1, T (ps k), some ⟨bb, bo + ks + mn, none⟩, cp - mn, by omega, rfl, hTp, ?_, by rw [HLE.out], ?_, by omega, ?_, hf2, by rw [HFL.out]; exact hb2, ?_⟩
            · intro h; rw [HKS.out] at h; exact HPS.out k (HNX.out h)
            · rw [HKS.out]; omega
            · intro h; rw [HKS.out] at h ⊢
              have : mn = sz := by omega
              rw [this, Nat.add_assoc]
            · rw [HKS.out]
              by_cases h : ks + sz < len
              · exact .inl (HNX.out h)
              · exact .inr (by omega)
          case measure => simp only [lenOf]; omega
    · have hz0 : len - k * sz = 0 := by omega
      have hkm3 : k = m := by
        rcases hkd with h | h
        · exfalso
          have h1 := HM.out
          have h2 : k * sz < len := partsN_lt (by omega) (by omega)
          omega
        · rcases Nat.lt_or_ge k m with h2 | h2
          · exfalso
            have h3 : k * sz < len := partsN_lt (by omega) (by rw [← HM.out]; exact h2)
            omega
          · omega
      subst hkm3
      generalize len - k * sz = z at *
      subst hz0
      go_wp2_with fail
      go_end0
      exact ⟨rfl, hfr, hbt⟩
end Go.Proofs.YtokpomdfgbbhlaaDoor

/- make of bytes and numbers; parts and mixed at sums; the tables' laws. -/
namespace Go.Proofs.YtokpomdfgbbhlaaDoor
open Go Go.RowKit

theorem madeCells_tab' (z : Value) (n : Nat) (h : z.cells = #[z]) : madeCells z.cells (n * 1) = (tab n (fun _ => z)).toArray := by
  apply Array.ext'
  rw [h]
  simp [madeCells, tab, List.map_const', Nat.mod_one]

/-- make([]T, n) of one-celled elements. -/
theorem mk_tab {t e : TypeId} {z : Value} {bytes : Nat} (ht : Tryd.prog.underlying t = some (.slice e)) (hi : (Tryd.prog.info? e).map (fun i => (i.zero, i.size, i.bytes)) = some (some z, 1, bytes)) (hz : z.cells = #[z])
    (c : Int) (n : Nat) (hc : c = n) (hb : bytes ≤ 100) (h63 : n ≤ 1000000000) (w : World) :
    (Instr.makeSlice t (.int .i64 c) (.int .i64 c)).run Tryd.prog w = .ok (.slice (some ⟨w.heap.size, 0, none⟩) n n) (w.alloc (.cells (tab n (fun _ => z)).toArray e)) := by
  subst hc
  obtain ⟨i, h1, h2, h3, h4⟩ := info_parts hi
  have := run_make (P := Tryd.prog) w t e i z ht h1 h2 .i64 .i64 n n (by omega) (by omega) (by
    rw [h4]
    have h := Nat.mul_le_mul hb h63
    have h : ((bytes * n : Nat) : Int) ≤ 281474976710656 := by omega
    rwa [Int.natCast_mul] at h) (by omega)
  rw [this, h3, Int.toNat_natCast, madeCells_tab' z n hz]

theorem info_u32 : (Tryd.prog.info? 63).map (fun i => (i.zero, i.size, i.bytes)) = some (some (.int .u32 0), 1, 4) := by kernel_rfl
theorem info_u8 : (Tryd.prog.info? 5).map (fun i => (i.zero, i.size, i.bytes)) = some (some (.int .u8 0), 1, 1) := by kernel_rfl
theorem mk_u32 (c : Int) (n : Nat) (hc : c = n) (h : n ≤ 1000000000) (w : World) : (Instr.makeSlice 22 (.int .i64 c) (.int .i64 c)).run Tryd.prog w = .ok (.slice (some ⟨w.heap.size, 0, none⟩) n n) (w.alloc (.cells (tab n (fun _ => .int .u32 0)).toArray 63)) :=
  mk_tab Tryd.underlying22 info_u32 rfl c n hc (by omega) h w
theorem mk_u8 (c : Int) (n : Nat) (hc : c = n) (h : n ≤ 1000000000) (w : World) : (Instr.makeSlice 23 (.int .i64 c) (.int .i64 c)).run Tryd.prog w = .ok (.slice (some ⟨w.heap.size, 0, none⟩) n n) (w.alloc (.cells (tab n (fun _ => .int .u8 0)).toArray 5)) :=
  mk_tab Tryd.underlying23 info_u8 rfl c n hc (by omega) h w

theorem parts_int (z : Int) (n size : Nat) (hz : z = n) (w : World) (hn : n ≤ 1000000) (h1 : 1 ≤ size) (h2 : size ≤ 1000000) :
    Calls Tryd.prog 21 #[.int .i64 z, .int .i64 size] w fun e w' => e = .returned (.int .i64 (partsN n size : Nat)) ∧ w = w' := by
  subst hz
  exact parts_any n size w hn h1 h2
theorem mixed_int (z y : Int) (n step : Nat) (hz : z = n) (hy : y = step) (w : World) (hn : n ≤ 5000) (hs : step ≤ 1000) :
    Calls Tryd.prog 22 #[.int .i64 z, .int .i64 y] w fun e w' => ∃ v, e = .returned v ∧ Fr [] w w' ∧ Ints w' w.heap.size v n (mixP n step) := by
  subst hz
  subst hy
  exact mixed_ints n step w hn hs

theorem blk_ne {w : World} {b b' : Nat} {S S' : TypeId} {l l' : List Value} (h : Blk w b S l) (h' : Blk w b' S' l') (hS : S ≠ S') : b ≠ b' := fun e => by
  subst e; exact hS (h.unique h').1
theorem Tbl.congr {w : World} {b n : Nat} {T T' : Nat → Nat} (h : Tbl w b n T) (hT : ∀ p, p < n → T p = T' p) : Tbl w b n T' := by
  unfold Tbl at h ⊢
  rw [tab_congr (g' := fun p => .int .u32 (T' p : Nat)) (fun i hi => by rw [hT i hi])] at h
  exact h
theorem Tbl.cell {w : World} {b n : Nat} {T : Nat → Nat} (h : Tbl w b n T) (p : Nat) (hp : p < n) : w.cell? ⟨b, p, none⟩ = some (.int .u32 (T p : Nat)) := (Blk.cell h _).trans (tab_get _ _ _ hp)

/-- The table of sectors with k of its own sectors marked. -/
def fsT (pl : Nat → Nat) : Nat → Nat → Nat
  | 0 => fun _ => 4294967295
  | k + 1 => fun q => if q = pl k then 4294967293 else fsT pl k q

theorem fsT_in (pl : Nat → Nat) (k j : Nat) (hj : j < k) : fsT pl k (pl j) = 4294967293 := by
  induction k with
  | zero => omega
  | succ k ih =>
    show (if pl j = pl k then _ else _) = _
    by_cases h : pl j = pl k
    · rw [if_pos h]
    · rw [if_neg h]
      by_cases hjk : j = k
      · subst hjk; exact absurd rfl h
      · exact ih (by omega)
theorem fsT_out (pl : Nat → Nat) (k p : Nat) (h : ∀ j, j < k → p ≠ pl j) : fsT pl k p = 4294967295 := by
  induction k with
  | zero => rfl
  | succ k ih =>
    show (if p = pl k then _ else _) = _
    rw [if_neg (h k (by omega))]
    exact ih (fun j hj => h j (by omega))

theorem chT_out (pl : Nat → Nat) (f n : Nat) (T : Nat → Nat) (k q : Nat) (h : ∀ i, i < k → q ≠ pl (f + i)) : chT pl f n T k q = T q := by
  induction k with
  | zero => rfl
  | succ k ih =>
    show (if q = pl (f + k) then _ else _) = _
    rw [if_neg (h k (by omega))]
    exact ih (fun i hi => h i (by omega))
theorem chT_in (pl : Nat → Nat) (f n : Nat) (T : Nat → Nat) (k i : Nat) (hi : i < k) (hinj : ∀ a b, a < k → b < k → pl (f + a) = pl (f + b) → a = b) :
    chT pl f n T k (pl (f + i)) = if i + 1 = n then 4294967294 else pl (f + i + 1) := by
  induction k with
  | zero => omega
  | succ k ih =>
    show (if pl (f + i) = pl (f + k) then (if k + 1 = n then 4294967294 else pl (f + k + 1)) else chT pl f n T k (pl (f + i))) = _
    by_cases h : i = k
    · subst h; rw [if_pos rfl]
    · rw [if_neg (fun e => h (hinj i k (by omega) (by omega) e))]
      exact ih (by omega) (fun a b ha hb => hinj a b (by omega) (by omega))
theorem chAll_out (pl cnt : Nat → Nat) (f : Nat) (T : Nat → Nat) (c q : Nat) (h : ∀ k, f ≤ k → k < f + sumN cnt c → q ≠ pl k) : chAll pl cnt f T c q = T q := by
  induction c with
  | zero => rfl
  | succ c ih =>
    have e : sumN cnt (c + 1) = sumN cnt c + cnt c := rfl
    rw [chAll, chT_out _ _ _ _ _ _ (fun i hi => h _ (by omega) (by omega))]
    exact ih (fun k h1 h2 => h k h1 (by omega))
theorem chAll_in (pl cnt : Nat → Nat) (f n : Nat) (T : Nat → Nat) (m : Nat) (hinj : ∀ a b, a < n → b < n → pl a = pl b → a = b) (hn : f + sumN cnt m ≤ n) (c i : Nat) (hc : c < m) (hi : i < cnt c) :
    chAll pl cnt f T m (pl (f + sumN cnt c + i)) = if i + 1 = cnt c then 4294967294 else pl (f + sumN cnt c + i + 1) := by
  induction m with
  | zero => omega
  | succ m ih =>
    have e : sumN cnt (m + 1) = sumN cnt m + cnt m := rfl
    rw [chAll]
    by_cases h : c = m
    · subst h
      exact chT_in pl (f + sumN cnt c) (cnt c) _ (cnt c) i hi (fun a b ha hb hab => by have := hinj _ _ (by omega) (by omega) hab; omega)
    · have hm := sumN_mono cnt (show c + 1 ≤ m by omega)
      rw [sumN] at hm
      rw [chT_out _ _ _ _ _ _ (fun j hj he => by have := hinj _ _ (by omega) (by omega) he; omega)]
      exact ih (by omega) (by omega)

theorem fat_ok (L : Lay) (hL : LayOK L) : FatOK L (chAll L.pl L.cnt L.fats (fsT L.pl L.fats) (3 + L.N)) := by
  have hinj : ∀ a b, a < L.tot → b < L.tot → L.pl a = L.pl b → a = b := fun a b ha hb h => mixP_inj _ _ ha hb h
  have ht : L.fats + sumN L.cnt (3 + L.N) = L.tot := by unfold Lay.tot Lay.sum; omega
  have hp := hL.tot_pos
  constructor
  · intro k hk
    rw [chAll_out]
    · exact fsT_in _ _ _ hk
    · intro j h1 h2 he
      have := hinj _ _ (by omega) (by omega) he
      omega
  · intro c i hc hi
    exact chAll_in L.pl L.cnt L.fats L.tot _ _ hinj (by omega) c i hc hi
  · intro p hp _
    rw [chAll_out]
    · exact fsT_out _ _ _ (fun j hj he => by have := hL.pl_lt j; omega)
    · intro k h1 h2 he
      have := hL.pl_lt k; omega
theorem fat_lt (L : Lay) (hL : LayOK L) (p : Nat) : chAll L.pl L.cnt L.fats (fsT L.pl L.fats) (3 + L.N) p < 4294967296 := by
  have hpl : ∀ k, L.pl k < 4294967296 := fun k => by
    have := hL.pl_lt k
    have := hL.sum_le
    have := hL.fats_ok.2.2
    unfold Lay.tot at *
    omega
  have h1 : ∀ k q, fsT L.pl k q < 4294967296 := by
    intro k
    induction k with
    | zero => intro q; show 4294967295 < 4294967296; omega
    | succ k ih => intro q; show (if q = L.pl k then 4294967293 else fsT L.pl k q) < _; split; omega; exact ih q
  have h2 : ∀ f n T k q, (∀ q, T q < 4294967296) → chT L.pl f n T k q < 4294967296 := by
    intro f n T k
    induction k with
    | zero => intro q h; exact h q
    | succ k ih =>
      intro q h
      show (if q = L.pl (f + k) then (if k + 1 = n then 4294967294 else L.pl (f + k + 1)) else chT L.pl f n T k q) < _
      split
      · split
        · omega
        · exact hpl _
      · exact ih q h
  have h3 : ∀ c q, chAll L.pl L.cnt L.fats (fsT L.pl L.fats) c q < 4294967296 := by
    intro c
    induction c with
    | zero => intro q; exact h1 _ q
    | succ c ih => intro q; exact h2 _ _ _ _ _ ih
  exact h3 _ _
theorem mfat_ok (L : Lay) : MfatOK L (chAll L.mpl L.small 0 (fun _ => 4294967295) L.N) := by
  have hinj : ∀ a b, a < L.minis → b < L.minis → L.mpl a = L.mpl b → a = b := fun a b ha hb h => mixP_inj _ _ ha hb h
  have ht : 0 + sumN L.small L.N = L.minis := by unfold Lay.minis; omega
  constructor
  · intro k i hk hi
    have := chAll_in L.mpl L.small 0 L.minis (fun _ => 4294967295) _ hinj (by omega) k i hk hi
    rw [Nat.zero_add] at this
    exact this
  · intro p hp _
    rw [chAll_out]
    intro k _ h2 he
    have := mixP_lt L.minis (L.step + 3) k (by omega)
    unfold Lay.mpl at he
    omega
theorem mstart_ch (L : Lay) (k : Nat) : chStart L.mpl L.small 0 k = L.mstart k := by
  unfold chStart Lay.mstart Lay.mbase
  rw [Nat.zero_add]
theorem mfat_lt (L : Lay) (hL : LayOK L) (h0 : L.minis ≠ 0) (p : Nat) : chAll L.mpl L.small 0 (fun _ => 4294967295) L.N p < 4294967296 := by
  have hm := hL.minis_le
  have hpl : ∀ k, L.mpl k < 4294967296 := fun k => by
    have := mixP_lt L.minis (L.step + 3) k (by omega)
    unfold Lay.mpl
    omega
  have h2 : ∀ f n T k q, (∀ q, T q < 4294967296) → chT L.mpl f n T k q < 4294967296 := by
    intro f n T k
    induction k with
    | zero => intro q h; exact h q
    | succ k ih =>
      intro q h
      show (if q = L.mpl (f + k) then (if k + 1 = n then 4294967294 else L.mpl (f + k + 1)) else chT L.mpl f n T k q) < _
      split
      · split
        · omega
        · exact hpl _
      · exact ih q h
  have h3 : ∀ c q, chAll L.mpl L.small 0 (fun _ => 4294967295) c q < 4294967296 := by
    intro c
    induction c with
    | zero => intro q; show 4294967295 < 4294967296; omega
    | succ c ih => intro q; exact h2 _ _ _ _ _ ih
  exact h3 _ _


/-- put, at whatever form of its numbers. -/
theorem put_c (gb off len cap a v m N : Nat) (za zv zm : Int) (ha : za = a) (hv : zv = v) (hm' : zm = m) (f : Nat → UInt8) (w : World) (h : Bts w gb N f) (hN : off + len ≤ N) (ham : a + m ≤ len) (hm : m ≤ 8) (hlen : len ≤ 9223372036854775807) :
    Calls Tryd.prog 26 #[.slice (some ⟨gb, off, none⟩) len cap, .int .i64 za, .int .u64 zv, .int .i64 zm] w fun e w' => e = .returned (.tuple #[]) ∧ Fr [gb] w w' ∧ Bts w' gb N (upd f (off + a) m v) := by
  subst ha
  subst hv
  subst hm'
  exact put_any gb off len cap a v m N f w h hN ham hm hlen

/-- The tables of Write in memory. -/
structure WTab (w : World) (L : Lay) (zb xb fb fn mb mn pb b19 b29 b33 : Nat) (fat mfat : Nat → Nat) : Prop where
  z : Blk w zb 3 [I64 L.sz]
  x : Blk w xb 22 [.slice (some ⟨fb, 0, none⟩) fn fn]
  ft : Tbl w fb fn fat
  mt : Tbl w mb mn mfat
  pl : ∃ l, Blk w pb 3 l ∧ ∀ i, i < L.tot → l[i]? = some (I64 (L.pl i))
  cn : ∃ l, Blk w b19 3 l ∧ ∀ i, i < 3 + L.N → l[i]? = some (I64 (L.cnt i))
  st : ∃ l, Blk w b29 3 l ∧ ∀ i, i < 3 + L.N → l[i]? = some (I64 (L.start i))
  ms : ∃ l, Blk w b33 3 l ∧ ∀ i, i < L.N → l[i]? = some (I64 (L.mstart i))

section
variable {w w' : World} {L : Lay} {zb xb fb fn mb mn pb b19 b29 b33 : Nat} {fat mfat : Nat → Nat} {ms : List Nat}
theorem WTab.fr (h : WTab w L zb xb fb fn mb mn pb b19 b29 b33 fat mfat) (f : Fr ms w w') (hm : ∀ b S l, Blk w b S l → S ≠ 5 → S ≠ 42 → b ∉ ms) : WTab w' L zb xb fb fn mb mn pb b19 b29 b33 fat mfat where
  z := h.z.fr f (hm _ _ _ h.z (by decide) (by decide))
  x := h.x.fr f (hm _ _ _ h.x (by decide) (by decide))
  ft := Blk.fr h.ft f (hm _ _ _ h.ft (by decide) (by decide))
  mt := Blk.fr h.mt f (hm _ _ _ h.mt (by decide) (by decide))
  pl := by obtain ⟨l, h1, h2⟩ := h.pl; exact ⟨l, h1.fr f (hm _ _ _ h1 (by decide) (by decide)), h2⟩
  cn := by obtain ⟨l, h1, h2⟩ := h.cn; exact ⟨l, h1.fr f (hm _ _ _ h1 (by decide) (by decide)), h2⟩
  st := by obtain ⟨l, h1, h2⟩ := h.st; exact ⟨l, h1.fr f (hm _ _ _ h1 (by decide) (by decide)), h2⟩
  ms := by obtain ⟨l, h1, h2⟩ := h.ms; exact ⟨l, h1.fr f (hm _ _ _ h1 (by decide) (by decide)), h2⟩
theorem WTab.fr0 (h : WTab w L zb xb fb fn mb mn pb b19 b29 b33 fat mfat) (f : Fr [] w w') : WTab w' L zb xb fb fn mb mn pb b19 b29 b33 fat mfat := h.fr f (by simp)
/-- A frame that turns one row of bytes. -/
theorem WTab.frB {b : Nat} {l : List Value} (h : WTab w L zb xb fb fn mb mn pb b19 b29 b33 fat mfat) (f : Fr [b] w w') (hb : Blk w b 5 l) : WTab w' L zb xb fb fn mb mn pb b19 b29 b33 fat mfat :=
  h.fr f (fun c S l' hc hS _ => by simp only [List.mem_singleton]; exact blk_ne hc hb hS)
theorem WTab.plc (h : WTab w L zb xb fb fn mb mn pb b19 b29 b33 fat mfat) (i : Nat) (hi : i < L.tot) : w.cell? ⟨pb, i, none⟩ = some (I64 (L.pl i)) := by
  obtain ⟨l, h1, h2⟩ := h.pl; exact (h1.cell i).trans (h2 i hi)
theorem WTab.cnc (h : WTab w L zb xb fb fn mb mn pb b19 b29 b33 fat mfat) (i : Nat) (hi : i < 3 + L.N) : w.cell? ⟨b19, i, none⟩ = some (I64 (L.cnt i)) := by
  obtain ⟨l, h1, h2⟩ := h.cn; exact (h1.cell i).trans (h2 i hi)
theorem WTab.stc (h : WTab w L zb xb fb fn mb mn pb b19 b29 b33 fat mfat) (i : Nat) (hi : i < 3 + L.N) : w.cell? ⟨b29, i, none⟩ = some (I64 (L.start i)) := by
  obtain ⟨l, h1, h2⟩ := h.st; exact (h1.cell i).trans (h2 i hi)
theorem WTab.msc (h : WTab w L zb xb fb fn mb mn pb b19 b29 b33 fat mfat) (i : Nat) (hi : i < L.N) : w.cell? ⟨b33, i, none⟩ = some (I64 (L.mstart i)) := by
  obtain ⟨l, h1, h2⟩ := h.ms; exact (h1.cell i).trans (h2 i hi)
end

/-- The file's row and the closures of Write in memory. -/
structure WOut (w : World) (L : Lay) (zb xb ob outb fnb : Nat) (f : Nat → UInt8) : Prop where
  ob_ : Blk w ob 23 [.slice (some ⟨outb, 0, none⟩) L.bytes L.bytes]
  fnb_ : Blk w fnb 76 [.func (.func 24) #[] #[.pointer (some ⟨ob, 0, none⟩), .pointer (some ⟨zb, 0, none⟩)]]
  out : Bts w outb L.bytes f

theorem WOut.fr {w w' : World} {L : Lay} {zb xb ob outb fnb : Nat} {f f' : Nat → UInt8} (h : WOut w L zb xb ob outb fnb f) (hf : Fr [outb] w w') (hb : Bts w' outb L.bytes f') : WOut w' L zb xb ob outb fnb f' where
  ob_ := h.ob_.fr hf (by simpa using blk_ne h.ob_ h.out (by decide))
  fnb_ := h.fnb_.fr hf (by simpa using blk_ne h.fnb_ h.out (by decide))
  out := hb
theorem WOut.frB {w w' : World} {L : Lay} {zb xb ob outb fnb b : Nat} {f : Nat → UInt8} {l : List Value} (h : WOut w L zb xb ob outb fnb f) (hf : Fr [b] w w') (hb : Blk w b 5 l) (hne : outb ≠ b) : WOut w' L zb xb ob outb fnb f where
  ob_ := h.ob_.fr hf (by simpa using blk_ne h.ob_ hb (by decide))
  fnb_ := h.fnb_.fr hf (by simpa using blk_ne h.fnb_ hb (by decide))
  out := Blk.fr h.out hf (by simpa using hne)
theorem WOut.fr0 {w w' : World} {L : Lay} {zb xb ob outb fnb : Nat} {f : Nat → UInt8} (h : WOut w L zb xb ob outb fnb f) (hf : Fr [] w w') : WOut w' L zb xb ob outb fnb f where
  ob_ := h.ob_.fr0 hf
  fnb_ := h.fnb_.fr0 hf
  out := Blk.fr0 h.out hf

theorem run_store_fn (w : World) (a : Addr) (fn : Fn) (first cap : Array Value) (m : Mode) : (store a (.func fn first cap) m).run Tryd.prog w = stored Tryd.prog w a (.func fn first cap) m := run_store Tryd.prog w a _ m rfl
end Go.Proofs.YtokpomdfgbbhlaaDoor

/- Nodes in memory; what all parts of Write know. -/
namespace Go.Proofs.YtokpomdfgbbhlaaDoor
open Go Go.RowKit

/-- The cells of a node. -/
def ndCells (x : Nd) (dv : Value) : List Value :=
  [.string x.name, .bool x.stream, dv, .int .i64 x.left, .int .i64 x.right, .int .i64 x.child] ++ tab 16 (fun i => U8 (x.cls i)) ++ tab 4 (fun i => U8 (x.sts i)) ++ [.int .u64 x.cr, .int .u64 x.md]

/-- The bytes of a node lie in memory. -/
def DatIs (w : World) (x : Nd) (dv : Value) : Prop :=
  ∃ (a : Option Addr) (cap : Nat), dv = .slice a x.len cap ∧ x.len ≤ cap ∧ cap ≤ 9223372036854775807 ∧ (0 < x.len → ∃ b o, a = some ⟨b, o, none⟩ ∧ (∃ l, Blk w b 5 l ∧ ∀ i, i < x.len → l[o + i]? = some (U8 (x.dat i))))

/-- The nodes lie in memory. -/
structure NdsIs (w : World) (lb : Nat) (L : Lay) (dv : Nat → Value) : Prop where
  row : ∃ l, Blk w lb 42 l ∧ ∀ k, k < L.N → ∀ j, j < 28 → l[k * 28 + j]? = (ndCells (L.nd k) (dv k))[j]?
  dat : ∀ k, k < L.N → DatIs w (L.nd k) (dv k)

theorem ndCells_length (x : Nd) (dv : Value) : (ndCells x dv).length = 28 := by simp [ndCells]

theorem ndCells_one (x : Nd) (a : Option Addr) (n c : Nat) : (ndCells x (.slice a n c)).toArray.all (·.oneCell') = true := by
  refine all_oneCell_toArray (fun v hv => ?_)
  simp only [ndCells, List.mem_append, List.mem_cons, List.not_mem_nil, or_false, tab, List.mem_map] at hv
  rcases hv with ((h | ⟨i, _, h⟩) | ⟨i, _, h⟩) | h
  · rcases h with rfl | rfl | rfl | rfl | rfl | rfl <;> rfl
  · subst h; rfl
  · subst h; rfl
  · rcases h with rfl | rfl <;> rfl

/-- Two rows of the call's own, each with one value more. -/
theorem two_rows {w1 w2 w3 : World} {base n n' : Nat} {u8 u9 v1 v2 : Value} {x8 x9 y8 : List Value} (ho1 : w1.ownsRow base 3 1 u8 n x8) (ho2 : w1.ownsRow base 3 1 u9 n x9) (hd : ∀ b, u8.ownBlock = some b → u9.ownBlock ≠ some b)
    (hn1 : w2.ownsRow base 3 1 v1 n' y8) (hg1 : Fr u8.ownBlock.toList w1 w2) (h1 : ∀ g, v1.ownBlock = some g → u8.ownBlock = some g ∨ w1.heap.size ≤ g)
    (hg2 : Fr u9.ownBlock.toList w2 w3) (h2 : ∀ g, v2.ownBlock = some g → u9.ownBlock = some g ∨ w2.heap.size ≤ g) :
    w3.ownsRow base 3 1 v1 n' y8 ∧ ∀ b, v1.ownBlock = some b → v2.ownBlock ≠ some b := by
  have key : ∀ b, v1.ownBlock = some b → u9.ownBlock ≠ some b := by
    intro b hb hb9
    rcases h1 b hb with h | h
    · exact hd b h hb9
    · have := (ho2.lt b hb9).2
      omega
  refine ⟨own_fr hn1 hg2 (fun b hb => by simp only [Option.mem_toList, Option.mem_def]; exact key b hb), ?_⟩
  intro b hb hb2
  rcases h2 b hb2 with h | h
  · exact key b hb h
  · have := (hn1.lt b hb).2
    omega

theorem tab_three (a b c : Value) (n : Nat) (g h : Nat → Value) (h0 : h 0 = a) (h1 : h 1 = b) (h2 : h 2 = c) (h3 : ∀ i, i < n → h (3 + i) = g i) : #[a, b, c].toList ++ tab n g = tab (3 + n) h := by
  apply List.ext_getElem?
  intro i
  rw [tab_get?]
  rcases i with _ | _ | _ | i
  · simp [h0]
  · simp [h1]; try omega
  · simp [h2]; try omega
  · have e : (#[a, b, c].toList ++ tab n g)[i + 1 + 1 + 1]? = (tab n g)[i]? := rfl
    rw [e, tab_get?]
    by_cases hi : i < n
    · rw [if_pos hi, if_pos (by omega), ← h3 i hi]
      congr 2; omega
    · rw [if_neg hi, if_neg (by omega)]
theorem cnt_big (L : Lay) (i : Nat) : L.cnt (3 + i) = L.big i := by
  unfold Lay.cnt
  rw [if_neg (by omega), if_neg (by omega), if_neg (by omega), Nat.add_sub_cancel_left]

theorem verI (L : Lay) : ((L.ver : Int) == 4) = L.four := by unfold Lay.ver; cases L.four <;> simp

/-- What stands throughout Write. -/
structure WEnv (L : Lay) (w0 : World) (lb lcap fn mn pc c19 c29 c33 outb : Nat) (dv : Nat → Value) (fat mfat : Nat → Nat) : Prop where
  hL : LayOK L
  st : L.step ≤ 300
  nd : NdsIs w0 lb L dv
  lc : L.N ≤ lcap ∧ lcap ≤ 9223372036854775807
  fo : FatOK L fat
  fl : ∀ p, fat p < 4294967296
  mo : MfatOK L mfat
  ml : ∀ p, p < mn → mfat p < 4294967296
  fn_ : fn = L.fats * L.per
  mn_ : mn = L.cnt 1 * L.per
  pc_ : L.tot ≤ pc ∧ pc ≤ 9223372036854775807
  c19_ : 3 + L.N ≤ c19 ∧ c19 ≤ 9223372036854775807
  c29_ : 3 + L.N ≤ c29 ∧ c29 ≤ 9223372036854775807
  c33_ : L.N ≤ c33 ∧ c33 ≤ 9223372036854775807
  ob_ : w0.heap.size ≤ outb

theorem LayOK.bytes_le {L : Lay} (hL : LayOK L) : 512 ≤ L.bytes ∧ L.bytes ≤ 2490368 := by
  have h1 := hL.sum_le
  have h2 := hL.fats_ok
  have h3 : L.tot = L.sum + L.fats := rfl
  have h4 : L.bytes = L.sz * (1 + L.tot) := rfl
  have h5 : 512 ≤ L.sz ∧ L.sz ≤ 4096 := by rcases L.sz_or with ⟨e, _⟩ | ⟨e, _⟩ <;> omega
  have h6 := Nat.mul_le_mul h5.2 (show 1 + L.tot ≤ 608 by omega)
  have h7 := Nat.mul_le_mul h5.1 (show 1 ≤ 1 + L.tot by omega)
  omega
end Go.Proofs.YtokpomdfgbbhlaaDoor
