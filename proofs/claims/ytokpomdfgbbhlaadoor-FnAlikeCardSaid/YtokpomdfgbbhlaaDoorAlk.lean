/- FnAlike: entries are those that stand in the file, whichever size sectors have (part 11 of 12). No condition but the statement's own. -/
import Derived.Laws.AppendOwnNone
import Derived.BigQuiet
import Derived.Test.YtokpomdfgbbhlaaDoorAlj
set_option linter.all false
set_option linter.unusedVariables false
set_option linter.unusedSimpArgs false
set_option linter.unnecessarySimpa false
/- The contracts of Reader.ID, Created, Modified, and of Root over a sound file. -/
namespace Go.Proofs.YtokpomdfgbbhlaaDoor
open Go Go.RowKit Go.Maps

section
variable {w : World} {base rb sb : Nat} {F : Nat → UInt8} {ss m : Nat} {cs : Nat → Nat} {P : Nat → EntP} {t : Tr} {mn mm : Nat} {mf ms : Nat → Nat}
    {hb fb gb dg dcap ub ul uc : Nat} {fk dk : Nat → Nat} {pv : Nat → Value} {mfv msv : Value}

theorem rcreated_any (h : RdOK w base rb sb F ss m cs P t mn mm mf ms hb fb gb dg dcap ub ul uc fk dk pv mfv msv) (hl : 1 ≤ t.order.length) (he : t.order.getD 0 0 < m * (ss / 128)) :
    Calls Tryd.prog 35 #[.pointer (some ⟨rb, 0, none⟩)] w fun e w' => e = .returned (.int .u64 (fld (entB F ss cs (t.order.getD 0 0)) 100 8)) ∧ w = w' := by
  have r4 : w.cell? ⟨rb, 4, none⟩ = some (.slice (some ⟨gb, 0, none⟩) t.order.length (m * (ss / 128))) := h.rd.cell 4
  have g0 := h.files 0 (by omega)
  have hcon := Lib.hid (created_any _ _ _ _ _ _ _ _ _ _ _ w (h.file _ he) (h.ent _ he))
  generalize t.order.getD 0 0 = e0 at *
  generalize t.order.length = tl at *
  go_enter Tryd.func35, Tryd.ntmps35
  go_wp2_with fail
  refine hcon.out.mono ?_
  rintro e w1 ⟨rfl, rfl⟩
  go_wp2_with fail
  go_ret
  exact ⟨rfl, rfl⟩
theorem rmodified_any (h : RdOK w base rb sb F ss m cs P t mn mm mf ms hb fb gb dg dcap ub ul uc fk dk pv mfv msv) (hl : 1 ≤ t.order.length) (he : t.order.getD 0 0 < m * (ss / 128)) :
    Calls Tryd.prog 36 #[.pointer (some ⟨rb, 0, none⟩)] w fun e w' => e = .returned (.int .u64 (fld (entB F ss cs (t.order.getD 0 0)) 108 8)) ∧ w = w' := by
  have r4 : w.cell? ⟨rb, 4, none⟩ = some (.slice (some ⟨gb, 0, none⟩) t.order.length (m * (ss / 128))) := h.rd.cell 4
  have g0 := h.files 0 (by omega)
  have hcon := Lib.hid (modified_any _ _ _ _ _ _ _ _ _ _ _ w (h.file _ he) (h.ent _ he))
  generalize t.order.getD 0 0 = e0 at *
  generalize t.order.length = tl at *
  go_enter Tryd.func36, Tryd.ntmps36
  go_wp2_with fail
  refine hcon.out.mono ?_
  rintro e w1 ⟨rfl, rfl⟩
  go_wp2_with fail
  go_ret
  exact ⟨rfl, rfl⟩

set_option maxRecDepth 100000 in
set_option maxHeartbeats 1000000 in
theorem rid_any (h : RdOK w base rb sb F ss m cs P t mn mm mf ms hb fb gb dg dcap ub ul uc fk dk pv mfv msv) (hl : 1 ≤ t.order.length) (he : t.order.getD 0 0 < m * (ss / 128)) :
    Calls Tryd.prog 34 #[.pointer (some ⟨rb, 0, none⟩)] w fun e w' => e = .returned (.agg (guidA (fun j => entB F ss cs (t.order.getD 0 0) (80 + j)))) ∧ Fr [] w w' := by
  have r4 : w.cell? ⟨rb, 4, none⟩ = some (.slice (some ⟨gb, 0, none⟩) t.order.length (m * (ss / 128))) := h.rd.cell 4
  have g0 := h.files 0 (by omega)
  have hfl := h.file _ he
  have hen := h.ent _ he
  have lr := h.rd.lt
  have lg := World.block_lt_of_cell? w _ g0
  dsimp only at lg
  generalize t.order.getD 0 0 = e0 at *
  generalize t.order.length = tl at *
  generalize entB F ss cs e0 = G at *
  go_enter Tryd.func34, Tryd.ntmps34
  go_wp2_with fail
  refine (id_any _ _ _ _ _ _ _ _ _ _ G _ (hfl.alloc _) (hen.alloc _)).mono ?_
  rintro e w1 ⟨rfl, hf1⟩
  have hr1 := (Blk.new' w 97 (List.replicate 16 (Value.int .u8 0)).toArray).fr0 hf1
  go_wp2_with (with_reducible refine wpList_store_blk rfl 97 (.tmp 2) (.tmp 9) rfl w.heap.size 0 (guidA (fun j => G (80 + j))) rfl rfl 97 _ hr1 ?_ ?_ (guidA_one _) ?_)
  · simp [guidA_size]
  · rw [guidA_size]; kernel_rfl
  · intro w2 hf2 hb3
    have hfr : Fr [] w w2 := (((Fr.refl [] w).alloc _).trans0 hf1).trans hf2 (by simp)
    have e3 := splice_whole (List.replicate 16 (Value.int .u8 0)) (guidA (fun j => G (80 + j))).toList (by simp [guidA])
    have hb4 : Blk w2 w.heap.size 97 (guidA (fun j => G (80 + j))).toList := by rw [← e3]; exact hb3
    have hld : (loadVar 97 ⟨w.heap.size, 0, none⟩).run Tryd.prog w2 = .ok (.agg (guidA (fun j => G (80 + j)))) w2 := by
      have := run_loadVar_mid (P := Tryd.prog) w2 w.heap.size 0 97 (guidA (fun j => G (80 + j))).toList _ (fun j v hj => by rw [hb4.cell]; simpa using hj) Tryd.underlying97 rfl (by rw [Array.length_toList, guidA_size]; kernel_rfl)
      simpa using this
    clear hb3 hb4 e3 hf2
    go_wp2_with fail
    refine bodyPost_ret (v := .agg (guidA (fun j => G (80 + j)))) ?_ rfl ⟨rfl, hfr⟩
    simp [results, Tryd.results34, asAddr, hld]

theorem RdOK.fr0 {w' : World} (h : RdOK w base rb sb F ss m cs P t mn mm mf ms hb fb gb dg dcap ub ul uc fk dk pv mfv msv) (f : Fr [] w w') :
    RdOK w' base rb sb F ss m cs P t mn mm mf ms hb fb gb dg dcap ub ul uc fk dk pv mfv msv where
  rb_ := h.rb_
  rd := h.rd.fr0 f
  hd := h.hd.fr0 f
  hdb := h.hdb
  fd := h.fd.fr0 f
  files := fun i hi => f.cell0 (h.files i hi)
  file := fun e he => (h.file e he).fr0 f
  fileb := h.fileb
  filei := h.filei
  ent := fun e he => (h.ent e he).fr0 f
  path := fun q hq => (h.path q hq).fr f (by simp)
  mini := by
    rcases h.mini with h | ⟨a, b, k, h1, h2, h3, h4, h5, h6, h7⟩
    · exact .inl h
    · exact .inr ⟨a, b, k, h1, h2, h3, h4, h5, fun i hi => f.cell0 (h6 i hi), fun i hi => f.cell0 (h7 i hi)⟩
end
end Go.Proofs.YtokpomdfgbbhlaaDoor

/- The contract of Root over a sound file. -/
namespace Go.Proofs.YtokpomdfgbbhlaaDoor
open Go Go.RowKit Go.Maps

set_option maxRecDepth 100000 in
set_option maxHeartbeats 1000000 in
theorem root_ok (ab ao n ncap ss m mn mm : Nat) (F : Nat → UInt8) (cs mf ms : Nat → Nat) (P : Nat → EntP) (t : Tr) (w : World) (hB : ∀ i, i < n → w.cell? ⟨ab, ao + i, none⟩ = some (U8 (F i)))
    (hF : FileOK F n ss m cs P t mn mm mf ms) (hn : n ≤ 131072)
    (hp : ∀ i, 65 ≤ i → i ≤ 90 → w.cell? ⟨2, i, none⟩ = some (.int .u8 160)) (h2w : 2 < w.heap.size) (hl : 1 ≤ t.order.length) (h0 : t.order.getD 0 0 = 0) (hm : 0 < m * (ss / 128)) :
    Calls Tryd.prog 14 #[.slice (some ⟨ab, ao, none⟩) n ncap] w fun e w' => Fr [] w w' ∧
      e = .returned (.tuple #[.agg (guidA (fun j => entB F ss cs 0 (80 + j))), .int .u64 (fld (entB F ss cs 0) 100 8), .int .u64 (fld (entB F ss cs 0) 108 8), .int .i64 0]) := by
  go_enter Tryd.func14, Tryd.ntmps14
  go_wp2_with fail
  refine (opened_ok ab ao n ncap ss m mn mm F cs mf ms P t _ (fun i hi => ((Fr.refl [] w).alloc _).cell0 (hB i hi)) hF hn (fun i a b => ((Fr.refl [] w).alloc _).cell0 (hp i a b)) (by simp; omega)).mono ?_
  rintro e w1 ⟨base, sb, bb, cap, rb, hb, fb, gb, dg, dcap, ub, ul, uc, fk, dk, pv, mfv, msv, rfl, hf1, _, _, _, _, _, _, hR⟩
  have hr1 := (Blk.new' w 36 (List.replicate 16 (Value.int .u8 0)).toArray).fr0 hf1
  go_wp2_with fail
  have k1 := rid_any hR hl (by rw [h0]; exact hm)
  rw [h0] at k1
  generalize hG : entB F ss cs 0 = G at *
  refine k1.mono ?_
  rintro e w2 ⟨rfl, hf2⟩
  go_wp2_with fail
  have k2 := rcreated_any (hR.fr0 hf2) hl (by rw [h0]; exact hm)
  rw [h0, hG] at k2
  refine k2.mono ?_
  rintro e w3 ⟨rfl, rfl⟩
  go_wp2_with fail
  have k3 := rmodified_any (hR.fr0 hf2) hl (by rw [h0]; exact hm)
  rw [h0, hG] at k3
  refine k3.mono ?_
  rintro e w3 ⟨rfl, rfl⟩
  have hr2 := hr1.fr0 hf2
  clear k1 k2 k3
  go_wp2_with (refine wpList_store_blk rfl 36 (.tmp 2) (.tmp 20) rfl w.heap.size 0 (guidA (fun j => G (80 + j))) rfl rfl 36 _ hr2 ?_ ?_ (guidA_one _) ?_)
  · simp [guidA_size]
  · rw [guidA_size]; kernel_rfl
  · intro w4 hf4 hb3
    have hfr : Fr [] w w4 := ((((Fr.refl [] w).alloc _).trans0 hf1).trans0 hf2).trans hf4 (by simp)
    have e3 := splice_whole (List.replicate 16 (Value.int .u8 0)) (guidA (fun j => G (80 + j))).toList (by simp [guidA])
    have hb4 : Blk w4 w.heap.size 36 (guidA (fun j => G (80 + j))).toList := by rw [← e3]; exact hb3
    have hld : (loadVar 36 ⟨w.heap.size, 0, none⟩).run Tryd.prog w4 = .ok (.agg (guidA (fun j => G (80 + j)))) w4 := by
      have := run_loadVar_mid (P := Tryd.prog) w4 w.heap.size 0 36 (guidA (fun j => G (80 + j))).toList _ (fun j v hj => by rw [hb4.cell]; simpa using hj) Tryd.underlying36 rfl (by rw [Array.length_toList, guidA_size]; kernel_rfl)
      simpa using this
    clear hb3 hb4 e3 hf4
    go_wp2_with fail
    refine bodyPost_ret (v := .tuple #[.agg (guidA (fun j => G (80 + j))), .int .u64 (fld G 100 8), .int .u64 (fld G 108 8), .int .i64 0]) ?_ rfl ⟨hfr, by rw [hG]⟩
    simp [results, Tryd.results14, asAddr, hld]
end Go.Proofs.YtokpomdfgbbhlaaDoor

/- append onto a row of the call's own, as a step of a region that draws its order. -/
namespace Go.Proofs.YtokpomdfgbbhlaaDoor
open Go Go.RowKit Go.Maps

theorem step_append_own {P : Program} {ops : Array Oper} {o : Oper} {a : Act} {w : World} {K : Act → World → Prop} {Q : Exit → Act → World → Prop} {E : Prop} (hgd : o.guard = none) (s x : Operand) (t : TypeId)
    (ho : o.op = .call { callee := .builtin .append, args := #[s, x], argTypes := #[t, t] })
    (base : Nat) (e : TypeId) (i : TypeInfo) (z : Value) (size bytes : Nat) (ht : P.underlying t = some (.slice e)) (hi : P.info? e = some i) (hz : i.zero = some z)
    (hsize : i.size = size) (hby : i.bytes = bytes) (hzs : z.cells.size = size) (hsz : 0 < size)
    (v : Value) (n : Nat) (xs : List Value) (hs : a.eval s = v) (hown : w.ownsRow base e size v n xs)
    (ad : Addr) (m c : Nat) (news : List Value) (hx : a.eval x = .slice (some ad) m c) (hl : news.length = m * size) (hnews : ∀ j u, news[j]? = some u → w.cell? (ad.add j) = some u) (h1 : ∀ u ∈ news, u.oneCell' = true)
    (h63 : n + m ≤ maxLen) (hbytes : (n + m) * bytes ≤ 140737488355328) (hbase : base ≤ w.heap.size)
    (h : ∀ v' w', w'.ownsRow base e size v' (n + m) (xs ++ news) → w.grownBy w' v.ownBlock → K (a.put o.dst v') w') :
    if Region.wanted o (yielded ops a.tmps) = true then Oper.wp P o a w K Q else E := by
  have hw : Region.wanted o (yielded ops a.tmps) = true := by simp [Region.wanted, hgd]
  rw [if_pos hw]
  obtain ⟨v', w', hr, h2, h3, h4⟩ := run_append_own (P := P) w base t o.type e i z size bytes ht hi hz hsize hby hzs hsz v n xs hown ad m c news hl hnews h1 h63 hbytes hbase
  unfold Oper.wp
  simp only [execOp, ho, resolve, invoke, builtin, Sem.run_bind, Sem.run_pure, Result.andThen_ok, List.map_toArray, List.map_cons, List.map_nil, hs, hx, hr]
  exact h v' w' h2 h3
end Go.Proofs.YtokpomdfgbbhlaaDoor

/- The contract of Entries over a sound file. -/
namespace Go.Proofs.YtokpomdfgbbhlaaDoor
open Go Go.RowKit Go.Maps

theorem info40 : (Tryd.prog.info? 40).map (fun i => (i.zero.map (·.cells.size), i.size, i.bytes)) = some (some 27, 27, 104) := by kernel_rfl
theorem info40_parts : ∃ i z, Tryd.prog.info? 40 = some i ∧ i.zero = some z ∧ i.size = 27 ∧ i.bytes = 104 ∧ z.cells.size = 27 := by
  obtain ⟨i, hi, hzz⟩ := Option.map_eq_some_iff.1 info40
  simp only [Prod.mk.injEq] at hzz
  obtain ⟨z, h1, h2⟩ := Option.map_eq_some_iff.1 hzz.1
  exact ⟨i, z, hi, h1, hzz.2.1, hzz.2.2, h2⟩

/-- The cells of an Entry. -/
def entCells (p : EntP) (path : Value) (G : Nat → UInt8) : List Value :=
  [.string p.name, path, .int .i64 ((G 66).toNat : Nat), .int .i64 p.size, .int .i64 p.init] ++ (guidA (fun j => G (80 + j))).toList ++ (stateA (fun j => G (96 + j))).toList ++ [.int .u64 (fld G 100 8), .int .u64 (fld G 108 8)]
theorem entCells_length (p : EntP) (path : Value) (G : Nat → UInt8) : (entCells p path G).length = 27 := by simp [entCells, guidA, stateA]

/-- A list of texts, in a slice that may be nil. -/
def TextsIs (w : World) (base : Nat) (v : Value) (p : List ByteArray) : Prop := w.ownsRow base 9 1 v p.length (p.map Value.string)

theorem own_fr0 {w w' : World} {base : Nat} {e : TypeId} {size n : Nat} {v : Value} {xs : List Value} (h : w.ownsRow base e size v n xs) (f : Fr [] w w') : w'.ownsRow base e size v n xs := own_fr h f (by simp)
theorem news_new (w : World) (cs : Array Value) (e : TypeId) {l : List Value} (h : cs.toList = l) : ∀ j u, l[j]? = some u → (w.alloc (.cells cs e)).cell? ((⟨w.heap.size, 0, none⟩ : Addr).add j) = some u := by
  intro j u hj
  subst h
  rw [add_zero']
  exact ((Blk.new' w e cs).cell j).trans hj
theorem own_mono {w : World} {base base' : Nat} {e : TypeId} {size n : Nat} {v : Value} {xs : List Value} (h : w.ownsRow base e size v n xs) (hb : base' ≤ base) : w.ownsRow base' e size v n xs := by
  refine ⟨h.1, ?_⟩
  rcases h.2 with h0 | ⟨g, cap, cur, e1, h1, h2⟩
  · exact .inl h0
  · exact .inr ⟨g, cap, cur, e1, Nat.le_trans hb h1, h2⟩
theorem ent_last {wr w3 w4 : World} {o : Obj} {out pv : Value} {base b9 k n f0 : Nat} {rows xs l : List Value} (hfc : Fr [] wr w3) (hfo : Fr out.ownBlock.toList (w3.alloc o) w4) (hown : wr.ownsRow base 40 27 out k rows) (hfl : Blk wr f0 95 l)
    (ht : w3.ownsRow b9 9 1 pv n xs) : Blk w4 f0 95 l ∧ w4.ownsRow b9 9 1 pv n xs ∧ Fr out.ownBlock.toList wr w4 := by
  have h1 := own_fr0 hown (hfc.alloc o)
  have h2 := hfl.fr0 (hfc.alloc o)
  have h3 := own_fr0 ht ((Fr.refl [] w3).alloc o)
  exact ⟨h2.fr hfo (own_ne h1 h2 (by decide)), own_fr h3 hfo (own_sep h3 h1 (by decide)), ((hfc.alloc o).mono (by simp)).trans hfo (fun x hx => .inl hx)⟩
theorem entCells_one (p : EntP) (a : Option Addr) (n c : Nat) (G : Nat → UInt8) : ∀ u ∈ entCells p (.slice a n c) G, u.oneCell' = true := by
  intro u hu
  simp only [entCells, guidA, stateA, List.mem_append, List.mem_cons, List.not_mem_nil, or_false, tab, List.toList_toArray, List.mem_map] at hu
  rcases hu with ((h | ⟨i, _, rfl⟩) | ⟨i, _, rfl⟩) | h
  · rcases h with rfl | rfl | rfl | rfl | rfl <;> rfl
  · rfl
  · rfl
  · rcases h with rfl | rfl <;> rfl

/-- The entries' cells, one behind the other. -/
def entRows (k : Nat) (o : Nat → Nat) (P : Nat → EntP) (pth : Nat → Value) (B : Nat → Nat → UInt8) : List Value := (List.range k).flatMap (fun i => entCells (P (o i)) (pth i) (B (o i)))
theorem entRows_succ (k : Nat) (o : Nat → Nat) (P : Nat → EntP) (pth : Nat → Value) (B : Nat → Nat → UInt8) : entRows (k + 1) o P pth B = entRows k o P pth B ++ entCells (P (o k)) (pth k) (B (o k)) := by
  simp [entRows, List.range_succ]
theorem entRows_congr {k : Nat} {o : Nat → Nat} {P : Nat → EntP} {pth pth' : Nat → Value} {B : Nat → Nat → UInt8} (h : ∀ i, i < k → pth i = pth' i) : entRows k o P pth B = entRows k o P pth' B := by
  unfold entRows
  induction k with
  | zero => rfl
  | succ k ih =>
    rw [List.range_succ, List.flatMap_append, List.flatMap_append, ih (fun i hi => h i (by omega))]
    simp [h k (by omega)]


/-- sixteen bytes, written out. -/
theorem guidA_lit (f : Nat → UInt8) : guidA f = #[U8 (f 0), U8 (f 1), U8 (f 2), U8 (f 3), U8 (f 4), U8 (f 5), U8 (f 6), U8 (f 7), U8 (f 8), U8 (f 9), U8 (f 10), U8 (f 11), U8 (f 12), U8 (f 13), U8 (f 14), U8 (f 15)] := rfl
theorem stateA_lit (f : Nat → UInt8) : stateA f = #[U8 (f 0), U8 (f 1), U8 (f 2), U8 (f 3)] := rfl

theorem Tr.paths_fst (nm : Nat → ByteArray) : ∀ (t : Tr) (p : List ByteArray), (t.paths nm p).map Prod.fst = t.order
  | .nil, _ => rfl
  | .node e l c r, p => by simp [Tr.paths, Tr.order, Tr.paths_fst nm l, Tr.paths_fst nm c, Tr.paths_fst nm r]
theorem Tr.paths_at (nm : Nat → ByteArray) (t : Tr) (p : List ByteArray) (k : Nat) (hk : k < t.order.length) :
    (t.order.getD k 0, ((t.paths nm p).getD k (0, [])).2) ∈ t.paths nm p := by
  have h := Tr.paths_fst nm t p
  have hl : k < (t.paths nm p).length := by
    have := congrArg List.length h
    simp at this; omega
  have h2 : t.order.getD k 0 = ((t.paths nm p)[k]).1 := by
    rw [← h, List.getD_eq_getElem?_getD, List.getElem?_map, List.getElem?_eq_getElem hl]
    rfl
  rw [h2, List.getD_eq_getElem?_getD, List.getElem?_eq_getElem hl]
  exact List.getElem_mem hl

theorem Tr.paths_len (nm : Nat → ByteArray) : ∀ (t : Tr) (p : List ByteArray) (q : Nat × List ByteArray), q ∈ t.paths nm p → q.2.length ≤ p.length + t.order.length
  | .nil, p, q, h => by simp [Tr.paths] at h
  | .node e l c r, p, q, h => by
    simp only [Tr.paths, List.mem_append, List.mem_cons] at h
    simp only [Tr.order, List.length_append, List.length_cons]
    rcases h with h | rfl | h | h
    · have := Tr.paths_len nm l p q h; omega
    · simp
    · have h1 := Tr.paths_len nm c _ q h
      split at h1
      · omega
      · simp at h1; omega
    · have := Tr.paths_len nm r p q h; omega

set_option maxRecDepth 100000 in
set_option maxHeartbeats 4000000 in
theorem entries_ok (ab ao n ncap ss m mn mm : Nat) (F : Nat → UInt8) (cs mf ms : Nat → Nat) (P : Nat → EntP) (t : Tr) (w : World) (hB : ∀ i, i < n → w.cell? ⟨ab, ao + i, none⟩ = some (U8 (F i)))
    (hF : FileOK F n ss m cs P t mn mm mf ms) (hn : n ≤ 131072)
    (hp : ∀ i, 65 ≤ i → i ≤ 90 → w.cell? ⟨2, i, none⟩ = some (.int .u8 160)) (h2w : 2 < w.heap.size) :
    Calls Tryd.prog 11 #[.slice (some ⟨ab, ao, none⟩) n ncap] w fun e w' => Fr [] w w' ∧ ∃ (v : Value) (pth : Nat → Value), e = .returned (.tuple #[v, .int .i64 0]) ∧
      w'.ownsRow w.heap.size 40 27 v t.order.length (entRows t.order.length (fun i => t.order.getD i 0) P pth (entB F ss cs)) ∧
      ∀ i, i < t.order.length → TextsIs w' w.heap.size (pth i) (((t.paths (fun e => (P e).name) []).getD i (0, [])).2) := by
  go_enter Tryd.func11, Tryd.ntmps11
  go_wp2_with fail
  refine (opened_ok ab ao n ncap ss m mn mm F cs mf ms P t _ hB hF hn hp h2w).mono ?_
  rintro e w1 ⟨base, sb, bb, cap, rb, hb, fb, gb, dg, dcap, ub, ul, uc, fk, dk, pv, mfv, msv, rfl, hf1, _, _, _, _, _, _, hR⟩
  have r4 : w1.cell? ⟨rb, 4, none⟩ = some (.slice (some ⟨gb, 0, none⟩) t.order.length (m * (ss / 128))) := hR.rd.cell 4
  have hord : ∀ i, i < t.order.length → t.order.getD i 0 < m * (ss / 128) := by
    intro i hi
    refine hF.t1.lt _ ?_
    rw [List.getD_eq_getElem?_getD, List.getElem?_eq_getElem hi]
    simp
  have hfs := hR.files
  have HO := Lib.hid hord
  have HFS := Lib.hid hfs
  clear hord hfs
  generalize hlen : t.order.length = tl at *
  obtain ⟨i0, z0, hi, hz0, hz1, hz2, hz3⟩ := info40_parts
  have hown0 : w1.ownsRow w1.heap.size 40 27 (.slice none 0 0) 0 [] := World.ownsRow_nil _ _ _ _
  go_wp2_with fail
  go_loopw [7, 24] (fun s7 s24 wr => ∃ (k : Nat) (pth : Nat → Value), k ≤ tl ∧ s24 = .int .i64 k ∧ Fr [] w1 wr ∧ wr.ownsRow w1.heap.size 40 27 s7 k (entRows k (fun i => t.order.getD i 0) P pth (entB F ss cs)) ∧
    ∀ i, i < k → TextsIs wr w1.heap.size (pth i) (((t.paths (fun e => (P e).name) []).getD i (0, [])).2)) (fun _ s24 _ => tl - (intOf s24).toNat)
  case atStart => exact ⟨0, fun _ => .nilIface, by omega, rfl, Fr.refl _ _, by simpa [entRows] using hown0, fun i hi => by omega⟩
  case round =>
    obtain ⟨k, pth, hk, rfl, hf, hown, htx⟩ := hrel
    by_cases hlt : k < tl
    · have hltI : (k : Int) < tl := by omega
      have hke := HO.out k hlt
      obtain ⟨pb, pcap, hpv, hpb, hpB⟩ := hR.path _ (Tr.paths_at (fun e => (P e).name) t [] k (by rw [hlen]; exact hlt))
      simp only at hpv
      have g0 : wr.cell? ⟨gb, k, none⟩ = some (.pointer (some ⟨fk (t.order.getD k 0), 0, none⟩)) := hf.cell0 (HFS.out k hlt)
      have hfl := (hR.file _ hke).fr0 hf
      have hen := (hR.ent _ hke).fr0 hf
      have hpB2 := hpB.fr0 hf
      rw [hpv] at hfl
      have hppl := Tr.paths_len (fun e => (P e).name) t [] _ (Tr.paths_at (fun e => (P e).name) t [] k (by rw [hlen]; exact hlt))
      rw [hlen] at hppl
      generalize hpp : ((t.paths (fun e => (P e).name) []).getD k (0, [])).2 = pp at *
      generalize he0 : t.order.getD k 0 = e0 at *
      have HPP := Lib.hid hpp
      have HE := Lib.hid he0
      clear hpp he0
      generalize fk e0 = f0 at *
      generalize dk e0 = d0 at *
      have hinit : (P e0).init ≤ 90 := by
        rcases hF.ent e0 hke with ⟨_, _, _, h, _⟩ | ⟨_, _, _, _, _, _, _, h90, _, _, _, _, h, _⟩
        · omega
        · omega
      generalize hG : entB F ss cs e0 = G at *
      generalize hp0 : P e0 = p0 at *
      have HP0 := Lib.hid hp0
      clear hp0
      have HG := Lib.hid hG
      clear hG
      have hidc := Lib.hid (fun w0 (f : Fr [] wr w0) => id_any f0 d0 p0.name p0.init _ p0.size 0 (fld G 116 4) 0 rb G w0 (hfl.fr0 f) (hen.fr0 f))
      have hstc := Lib.hid (fun w0 (f : Fr [] wr w0) => state_any f0 d0 p0.name p0.init _ p0.size 0 (fld G 116 4) 0 rb G w0 (hfl.fr0 f) (hen.fr0 f))
      have htyc := Lib.hid (fun w0 (f : Fr [] wr w0) => type_any f0 d0 p0.name p0.init _ p0.size 0 (fld G 116 4) 0 rb G w0 (hfl.fr0 f) (hen.fr0 f))
      have hcrc := Lib.hid (fun w0 (f : Fr [] wr w0) => created_any f0 d0 p0.name p0.init _ p0.size 0 (fld G 116 4) 0 rb G w0 (hfl.fr0 f) (hen.fr0 f))
      have hmdc := Lib.hid (fun w0 (f : Fr [] wr w0) => modified_any f0 d0 p0.name p0.init _ p0.size 0 (fld G 116 4) 0 rb G w0 (hfl.fr0 f) (hen.fr0 f))
      simp only [guidA_lit, stateA_lit] at hidc hstc
      have q0 : wr.cell? ⟨f0, 0, none⟩ = some (.string p0.name) := hfl.cell 0
      have q1 : wr.cell? ⟨f0, 1, none⟩ = some (.int .u16 p0.init) := hfl.cell 1
      have q2 : wr.cell? ⟨f0, 2, none⟩ = some (.slice (some ⟨pb, 0, none⟩) pp.length pcap) := hfl.cell 2
      have q3 : wr.cell? ⟨f0, 3, none⟩ = some (.int .i64 p0.size) := hfl.cell 3
      obtain ⟨i9, hi9, hz9, hs9, hb9⟩ := info_parts info9
      have htl : pp.length ≤ 100000 := by
        have h1 := hF.t3
        have h2 := hF.m2
        rw [hlen] at h1
        have h3 : ss / 128 ≤ 32 := by rcases hF.hdr.shift with ⟨_, h⟩ | ⟨_, h⟩ <;> omega
        have h4 := Nat.mul_le_mul h2 h3
        simp at hppl
        omega
      have htl2 : tl ≤ 100000 := by
        have h1 := hF.t3
        have h2 := hF.m2
        rw [hlen] at h1
        have h3 : ss / 128 ≤ 32 := by rcases hF.hdr.shift with ⟨_, h⟩ | ⟨_, h⟩ <;> omega
        have h4 := Nat.mul_le_mul h2 h3
        omega
      have hnews : ∀ j u, (pp.map Value.string)[j]? = some u → wr.drew.cell? ((⟨pb, 0, none⟩ : Addr).add j) = some u := by
        intro j u hj
        rw [add_zero']
        exact (hpB2.cell j).trans hj
      have h1one : ∀ u ∈ pp.map Value.string, u.oneCell' = true := by
        intro u hu
        obtain ⟨x, _, rfl⟩ := List.mem_map.1 hu
        rfl
      have hbase : w1.heap.size ≤ wr.drew.heap.size := hf.size
      have HNEWS := Lib.hid hnews
      have HONE := Lib.hid h1one
      have HI9 := Lib.hid (And.intro hi9 (And.intro hz9 (And.intro hs9 hb9)))
      have HI40 := Lib.hid (And.intro hi (And.intro hz0 (And.intro hz1 (And.intro hz2 hz3))))
      have HOWN := Lib.hid hown
      have HTX := Lib.hid htx
      have HFL := Lib.hid hfl
      have hfc : Fr [] wr wr.drew := (Fr.refl _ _).drew
      have hppl2 : (pp.map Value.string).length = pp.length * 1 := by simp
      have HPPL := Lib.hid hppl2
      clear hnews h1one hi9 hz9 hs9 hb9 hown htx hfl hpB2 hpB hppl hppl2 hen hR hown0
      have hwi : IntKind.i64.wrap (p0.init : Int) = (p0.init : Int) := IntWalk.i64_in _ (by omega)
      go_upto_region 8 with (fail)
      go_region_held3 (fun w' => w'.cell? ⟨f0, 0, none⟩ = some (.string p0.name) ∧ w'.cell? ⟨f0, 1, none⟩ = some (.int .u16 p0.init) ∧ w'.cell? ⟨f0, 2, none⟩ = some (.slice (some ⟨pb, 0, none⟩) pp.length pcap) ∧ w'.cell? ⟨f0, 3, none⟩ = some (.int .i64 p0.size))
        (first | exact ⟨hfc.cell0 q0, hfc.cell0 q1, hfc.cell0 q2, hfc.cell0 q3⟩ | exact ⟨(hfc.alloc _).cell0 q0, (hfc.alloc _).cell0 q1, (hfc.alloc _).cell0 q2, (hfc.alloc _).cell0 q3⟩ | exact hkept)
        (first
          | (go_at_call 28; (with_reducible refine (htyc.out _ hfc).mono ?_); rintro e1 w3 ⟨rfl, rfl⟩)
          | (go_at_call 29; (with_reducible refine (hidc.out _ hfc).mono ?_); rintro e1 w3 ⟨rfl, hf3⟩; replace hfc := hfc.trans0 hf3; have HR9 := Lib.hid (own_fr HR9.out hf3 (by simp)); clear hf3)
          | (go_at_call 30; (with_reducible refine (hstc.out _ hfc).mono ?_); rintro e1 w3 ⟨rfl, hf3⟩; replace hfc := hfc.trans0 hf3; have HR9 := Lib.hid (own_fr HR9.out hf3 (by simp)); clear hf3)
          | (go_at_call 31; (with_reducible refine (hcrc.out _ hfc).mono ?_); rintro e1 w3 ⟨rfl, rfl⟩)
          | (go_at_call 32; (with_reducible refine (hmdc.out _ hfc).mono ?_); rintro e1 w3 ⟨rfl, rfl⟩)
          | (refine step_append_own rfl (.const (.slice none 0 0)) (.tmp 36) 35 rfl w1.heap.size 9 i9 (.string ⟨#[]⟩) 1 16 Tryd.underlying35 HI9.out.1 HI9.out.2.1 HI9.out.2.2.1 HI9.out.2.2.2 rfl (by decide) (.slice none 0 0) 0 [] rfl (own_nil _ _ _ _) ⟨pb, 0, none⟩ pp.length pcap (pp.map Value.string) rfl HPPL.out HNEWS.out HONE.out (by unfold maxLen; omega) (by omega) hbase ?_; rintro v9 w3 hr9 hg9; rw [Nat.zero_add, List.nil_append] at hr9; obtain ⟨a9, c9, rfl⟩ := own_slice hr9; have hfc9 : Fr [] wr w3 := hfc.trans0 (Fr.of_grown hg9); clear hfc; have hfc := hfc9; have HR9 := Lib.hid hr9; clear hr9 hg9 hfc9)
          | (refine step_append_own rfl (.tmp 28) (.tmp 58) 28 rfl w1.heap.size 40 i0 z0 27 104 Tryd.underlying28 HI40.out.1 HI40.out.2.1 HI40.out.2.2.1 HI40.out.2.2.2.1 HI40.out.2.2.2.2 (by decide) u7 k _ rfl (own_fr0 HOWN.out (hfc.alloc _)) ⟨_, 0, none⟩ 1 1 (entCells p0 (.slice a9 pp.length c9) G) rfl ?_ (news_new _ _ _ rfl) (entCells_one _ _ _ _ _) ?_ ?_ (Nat.le_trans hbase (hfc.alloc _).size) ?_
             · exact entCells_length _ _ _
             · unfold maxLen; omega
             · omega
             rintro v31 w4 hr31 hg31
             have hel := ent_last hfc (Fr.of_grown hg31) HOWN.out HFL.out HR9.out
             have hk := hel.1
             have hkept : w4.cell? ⟨f0, 0, none⟩ = some (.string p0.name) ∧ w4.cell? ⟨f0, 1, none⟩ = some (.int .u16 p0.init) ∧ w4.cell? ⟨f0, 2, none⟩ = some (.slice (some ⟨pb, 0, none⟩) pp.length pcap) ∧ w4.cell? ⟨f0, 3, none⟩ = some (.int .i64 p0.size) := ⟨hk.cell 0, hk.cell 1, hk.cell 2, hk.cell 3⟩
             have HFIN := Lib.hid (And.intro hel.2.2 (And.intro hr31 hel.2.1))
             clear hel hk hr31 hg31 HR9))
      all_goals
        clear hwi
        go_wp2_with fail
        go_roundw
        case rel =>
          obtain ⟨hFW, hr31, hT⟩ := HFIN.out
          refine ⟨k + 1, fun i => if i = k then .slice a9 pp.length c9 else pth i, by omega, by go_num, ?_, ?_, ?_⟩
          · exact hf.own HOWN.out (Nat.le_refl _) hFW
          · rw [entRows_succ]
            simp only [if_pos]
            rw [HE.out, HP0.out, HG.out, entRows_congr (pth' := pth) (fun i hi => if_neg (by omega))]
            exact hr31
          · intro i hi
            by_cases hik : i = k
            · subst hik
              simp only [if_pos]
              rw [HPP.out]
              exact hT
            · simp only [if_neg hik]
              have := HTX.out i (by omega)
              exact own_fr this hFW (own_sep this HOWN.out (by decide))
        case measure => simp [intOf]; omega
    · obtain rfl : k = tl := by omega
      have hrow : wr.ownsRow w.heap.size 40 27 u7 k (entRows k (fun i => t.order.getD i 0) P pth (entB F ss cs)) := own_mono hown hf1.size
      have htx2 : ∀ i, i < k → TextsIs wr w.heap.size (pth i) (((t.paths (fun e => (P e).name) []).getD i (0, [])).2) := fun i hi => own_mono (htx i hi) hf1.size
      have hfw := hf1.trans0 hf
      have H := Lib.hid (And.intro hfw (And.intro hrow htx2))
      clear hrow htx2 hfw hown htx hown0
      go_wp2_with fail
      go_ret2
      exact ⟨H.out.1, u7, pth, rfl, by rw [hlen]; exact H.out.2.1, by rw [hlen]; exact H.out.2.2⟩
end Go.Proofs.YtokpomdfgbbhlaaDoor

/- Nodes in their order with their paths: what spec.Order's closure keeps; the drawn region that adds one. -/
namespace Go.Proofs.YtokpomdfgbbhlaaDoor
open Go Go.RowKit

/-- The paths of a tree's nodes, in order. -/
def NT.pths (nm : Nat → ByteArray) : NT → List ByteArray → List (List ByteArray)
  | nil, _ => []
  | node e l c r, p => l.pths nm p ++ p :: (c.pths nm (if e = 0 then p else p ++ [nm e]) ++ r.pths nm p)
theorem NT.pths_len (nm : Nat → ByteArray) : ∀ (t : NT) (p : List ByteArray), (t.pths nm p).length = t.order.length
  | nil, _ => rfl
  | node e l c r, p => by simp [NT.pths, NT.order, NT.pths_len nm l, NT.pths_len nm c, NT.pths_len nm r]
theorem NT.pths_snd (nm : Nat → ByteArray) : ∀ (t : NT) (p : List ByteArray), (t.toTr.paths nm p).map Prod.snd = t.pths nm p
  | nil, _ => rfl
  | node e l c r, p => by simp [NT.toTr, Tr.paths, NT.pths, NT.pths_snd nm l, NT.pths_snd nm c, NT.pths_snd nm r]

/-- What the closure captures and what it reaches. -/
structure OEnv where
  (fb lx yb zb lb N lcap : Nat)
  (nd : Nat → Nd)
  (dv : Nat → Value)
  (w0 : World)
def OEnv.base (O : OEnv) : Nat := O.w0.heap.size
def OEnv.caps (O : OEnv) : Array Value := #[.pointer (some ⟨O.fb, 0, none⟩), .pointer (some ⟨O.lx, 0, none⟩), .pointer (some ⟨O.yb, 0, none⟩), .pointer (some ⟨O.zb, 0, none⟩)]
def OEnv.nm (O : OEnv) (k : Nat) : ByteArray := (O.nd k).name

/-- Slices of texts. -/
def PathsAre (w : World) (base : Nat) (vs : List Value) (ps : List (List ByteArray)) : Prop := vs.length = ps.length ∧ ∀ i, i < vs.length → TextsIs w base (vs.getD i undef) (ps.getD i [])

structure OSt (O : OEnv) (w : World) (os : List Nat) (ps : List (List ByteArray)) : Prop where
  rec_ : Blk w O.fb 102 [.func (.func 33) #[] O.caps]
  box : Blk w O.lx 25 [.slice (some ⟨O.lb, 0, none⟩) O.N O.lcap]
  row : NdRow w O.lb O.N O.nd O.dv
  fr : Fr [] O.w0 w
  yb : O.base ≤ O.yb
  zb : O.base ≤ O.zb
  pl : ∃ v, Blk w O.yb 31 [v] ∧ w.ownsRow O.base 3 1 v os.length (os.map (fun e => I64 e))
  pa : ∃ v vs, Blk w O.zb 32 [v] ∧ w.ownsRow O.base 35 1 v os.length vs ∧ PathsAre w O.base vs ps

/-- Texts that stood stand. -/
def TxtKeep (base : Nat) (w w' : World) : Prop := ∀ v q, TextsIs w base v q → TextsIs w' base v q
theorem TxtKeep.refl (base : Nat) (w : World) : TxtKeep base w w := fun _ _ h => h
theorem TxtKeep.trans {base : Nat} {a b c : World} (h : TxtKeep base a b) (k : TxtKeep base b c) : TxtKeep base a c := fun v q x => k v q (h v q x)
theorem TxtKeep.of_fr {base : Nat} {w w' : World} {ms : List Nat} (f : Fr ms w w') (hm : ∀ b cs, w.heap[b]? = some (.cells cs 9 (0, 0)) → b ∉ ms) : TxtKeep base w w' := by
  intro v q h
  refine own_fr h f (fun k hk => ?_)
  rcases h.2 with ⟨rfl, _⟩ | ⟨g, cap, cur, rfl, _, hg, _⟩
  · simp [Value.ownBlock] at hk
  · simp [Value.ownBlock] at hk
    subst hk
    exact hm _ _ hg

theorem OSt.fr0 {O : OEnv} {w w' : World} {os : List Nat} {ps : List (List ByteArray)} (h : OSt O w os ps) (f : Fr [] w w') : OSt O w' os ps where
  rec_ := h.rec_.fr0 f
  box := h.box.fr0 f
  row := h.row.fr f (by simp)
  fr := h.fr.trans0 f
  yb := h.yb
  zb := h.zb
  pl := by
    obtain ⟨v, a, b⟩ := h.pl
    exact ⟨v, a.fr0 f, own_fr0 b f⟩
  pa := by
    obtain ⟨v, vs, a, b, c⟩ := h.pa
    exact ⟨v, vs, a.fr0 f, own_fr0 b f, c.1, fun i hi => own_fr0 (c.2 i hi) f⟩
/-- What the region knows. -/
structure RE where
  (O : OEnv)
  (wc : World)
  (v3 v35 pv : Value)
  (e n : Nat)
  (pls vs : List Value)

/-- What stands while the region goes on. -/
structure RE.J (R : RE) (L : Nat → Bool) (w : World) : Prop where
  fr : Fr (R.O.yb :: R.O.zb :: (R.v3.ownBlock.toList ++ R.v35.ownBlock.toList)) R.wc w
  y0 : L 8 = false → Blk w R.O.yb 31 [R.v3]
  z0 : L 9 = false → Blk w R.O.zb 32 [R.v35]
  p0 : L 3 = false → w.ownsRow R.O.base 3 1 R.v3 R.n R.pls
  q0 : L 7 = false → w.ownsRow R.O.base 35 1 R.v35 R.n R.vs
  y1 : L 8 = true → ∃ v, Blk w R.O.yb 31 [v] ∧ w.ownsRow R.O.base 3 1 v (R.n + 1) (R.pls ++ [I64 R.e])
  z1 : L 9 = true → ∃ v, Blk w R.O.zb 32 [v] ∧ w.ownsRow R.O.base 35 1 v (R.n + 1) (R.vs ++ [R.pv])

def RE.Sp (R : RE) : Nat → World → Value → Prop
  | 0, _, v => v = R.v3
  | 1, _, v => v = I64 R.e
  | 2, w, v => ∃ g, v = .slice (some ⟨g, 0, none⟩) 1 1 ∧ Blk w g 3 [I64 R.e] ∧ R.wc.heap.size ≤ g
  | 3, w, v => w.ownsRow R.O.base 3 1 v (R.n + 1) (R.pls ++ [I64 R.e])
  | 4, _, v => v = R.v35
  | 5, _, v => v = R.pv
  | 6, w, v => ∃ g, v = .slice (some ⟨g, 0, none⟩) 1 1 ∧ Blk w g 35 [R.pv] ∧ R.wc.heap.size ≤ g
  | 7, w, v => w.ownsRow R.O.base 35 1 v (R.n + 1) (R.vs ++ [R.pv])
  | _, _, _ => True

/-- What a step of the region leaves alone. -/
theorem RE.Sp_fr (R : RE) {w w' : World} {ms : List Nat} (f : Fr ms w w') (i : Nat) (u : Value) (h3 : ∀ b l, Blk w b 3 l → R.wc.heap.size ≤ b → b ∉ ms) (h35 : ∀ b l, Blk w b 35 l → R.wc.heap.size ≤ b → b ∉ ms)
    (o3 : i = 3 → ∀ v n xs, w.ownsRow R.O.base 3 1 v n xs → ∀ k, v.ownBlock = some k → k ∉ ms) (o35 : i = 7 → ∀ v n xs, w.ownsRow R.O.base 35 1 v n xs → ∀ k, v.ownBlock = some k → k ∉ ms) (h : R.Sp i w u) : R.Sp i w' u := by
  unfold RE.Sp at h ⊢
  split at h
  all_goals first
    | exact h
    | exact own_fr h f (o3 rfl _ _ _ h)
    | exact own_fr h f (o35 rfl _ _ _ h)
    | (obtain ⟨g, e1, e2, e3⟩ := h; exact ⟨g, e1, e2.fr f (h3 _ _ e2 e3), e3⟩)
    | (obtain ⟨g, e1, e2, e3⟩ := h; exact ⟨g, e1, e2.fr f (h35 _ _ e2 e3), e3⟩)

section
variable {R : RE} {L : Nat → Bool} {w w' : World}
theorem RE.J.alloc (h : R.J L w) (f : Fr [] w w') (i : Nat) (hi : i ≠ 3 ∧ i ≠ 7 ∧ i ≠ 8 ∧ i ≠ 9) : R.J (lSet L i) w' where
  fr := h.fr.trans0 f
  y0 := fun hl => (h.y0 (by rwa [lSet_ne _ _ _ (Ne.symm hi.2.2.1)] at hl)).fr0 f
  z0 := fun hl => (h.z0 (by rwa [lSet_ne _ _ _ (Ne.symm hi.2.2.2)] at hl)).fr0 f
  p0 := fun hl => own_fr0 (h.p0 (by rwa [lSet_ne _ _ _ (Ne.symm hi.1)] at hl)) f
  q0 := fun hl => own_fr0 (h.q0 (by rwa [lSet_ne _ _ _ (Ne.symm hi.2.1)] at hl)) f
  y1 := fun hl => by
    obtain ⟨v, a, b⟩ := h.y1 (by rwa [lSet_ne _ _ _ (Ne.symm hi.2.2.1)] at hl)
    exact ⟨v, a.fr0 f, own_fr0 b f⟩
  z1 := fun hl => by
    obtain ⟨v, a, b⟩ := h.z1 (by rwa [lSet_ne _ _ _ (Ne.symm hi.2.2.2)] at hl)
    exact ⟨v, a.fr0 f, own_fr0 b f⟩
theorem RE.Sp_alloc (f : Fr [] w w') (i : Nat) (u : Value) (h : R.Sp i w u) : R.Sp i w' u :=
  R.Sp_fr f i u (fun _ _ _ _ => by simp) (fun _ _ _ _ => by simp) (fun _ _ _ _ _ _ _ => by simp) (fun _ _ _ _ _ _ _ => by simp) h

theorem own_lt_not {w0 : World} {base : Nat} {e : TypeId} {size n : Nat} {v : Value} {xs : List Value} (h : w0.ownsRow base e size v n xs) {b : Nat} (hb : w0.heap.size ≤ b) : b ∉ v.ownBlock.toList := fun hx => by
  have := (h.lt b (by simpa using hx)).2
  omega

theorem RE.J.app3 (h : R.J L w) (h3 : L 3 = false) (h8 : L 8 = false) (h9 : L 9 = false) (hw3 : R.wc.ownsRow R.O.base 3 1 R.v3 R.n R.pls) (f : Fr R.v3.ownBlock.toList w w') : R.J (lSet L 3) w' ∧ ∀ j u, L j = true → R.Sp j w u → R.Sp j w' u := by
  have hp := h.p0 h3
  refine ⟨{
    fr := h.fr.trans_same (f.mono (fun x hx => .inl (by simp [hx])))
    y0 := fun hl => (h.y0 h8).fr f (own_ne hp (h.y0 h8) (by decide))
    z0 := fun hl => (h.z0 h9).fr f (own_ne hp (h.z0 h9) (by decide))
    p0 := fun hl => by rw [lSet_self] at hl; cases hl
    q0 := fun hl => by
      have hq := h.q0 (by rwa [lSet_ne _ _ _ (by decide)] at hl)
      exact own_fr hq f (own_sep hq hp (by decide))
    y1 := fun hl => by rw [lSet_ne _ _ _ (by decide), h8] at hl; cases hl
    z1 := fun hl => by rw [lSet_ne _ _ _ (by decide), h9] at hl; cases hl }, fun j u hj hs => ?_⟩
  refine R.Sp_fr f j u (fun b l _ hb => own_lt_not hw3 hb) (fun b l hb _ => own_ne hp hb (by decide)) (fun e => by subst e; rw [h3] at hj; cases hj) (fun _ v n xs ho => own_sep ho hp (by decide)) hs

theorem RE.J.app7 (h : R.J L w) (h7 : L 7 = false) (h8 : L 8 = false) (h9 : L 9 = false) (h3 : L 3 = true) (hw35 : R.wc.ownsRow R.O.base 35 1 R.v35 R.n R.vs) (f : Fr R.v35.ownBlock.toList w w') : R.J (lSet L 7) w' ∧ ∀ j u, L j = true → R.Sp j w u → R.Sp j w' u := by
  have hq := h.q0 h7
  refine ⟨{
    fr := h.fr.trans_same (f.mono (fun x hx => .inl (by simp [hx])))
    y0 := fun hl => (h.y0 h8).fr f (own_ne hq (h.y0 h8) (by decide))
    z0 := fun hl => (h.z0 h9).fr f (own_ne hq (h.z0 h9) (by decide))
    p0 := fun hl => by rw [lSet_ne _ _ _ (by decide), h3] at hl; cases hl
    q0 := fun hl => by rw [lSet_self] at hl; cases hl
    y1 := fun hl => by rw [lSet_ne _ _ _ (by decide), h8] at hl; cases hl
    z1 := fun hl => by rw [lSet_ne _ _ _ (by decide), h9] at hl; cases hl }, fun j u hj hs => ?_⟩
  refine R.Sp_fr f j u (fun b l hb _ => own_ne hq hb (by decide)) (fun b l _ hb => own_lt_not hw35 hb) (fun _ v n xs ho => own_sep ho hq (by decide)) (fun e => by subst e; rw [h7] at hj; cases hj) hs

theorem RE.J.st8 (h : R.J L w) (h8 : L 8 = false) (h9 : L 9 = false) (h3 : L 3 = true) (h7 : L 7 = true) (v : Value) (hv : w.ownsRow R.O.base 3 1 v (R.n + 1) (R.pls ++ [I64 R.e])) :
    R.J (lSet L 8) (w.setRow R.O.yb #[v]) ∧ ∀ j u, L j = true → R.Sp j w u → R.Sp j (w.setRow R.O.yb #[v]) u := by
  have f := setRow_fr w R.O.yb #[v]
  have hy := h.y0 h8
  have hz := h.z0 h9
  have hyz : R.O.zb ≠ R.O.yb := fun e => by rw [e] at hz; exact absurd (hz.unique hy).1 (by decide)
  have on : ∀ {e : TypeId} {u : Value} {n : Nat} {xs : List Value}, w.ownsRow R.O.base e 1 u n xs → e ≠ 31 → ∀ k, u.ownBlock = some k → k ∉ [R.O.yb] := fun ho he k hk hx => by
    have e : k = R.O.yb := by simpa using hx
    subst e
    exact own_ne ho hy (Ne.symm he) (by simpa using hk)
  have bn : ∀ {b : Nat} {T : TypeId} {l : List Value}, Blk w b T l → T ≠ 31 → b ∉ [R.O.yb] := by
    intro b T l hb hT hx
    have e : b = R.O.yb := by simpa using hx
    rw [e] at hb
    exact hT (hb.unique hy).1
  refine ⟨{
    fr := h.fr.trans_same (f.mono (fun x hx => .inl (by simp at hx; simp [hx])))
    y0 := fun hl => by rw [lSet_self] at hl; cases hl
    z0 := fun hl => hz.fr f (by simpa using hyz)
    p0 := fun hl => by rw [lSet_ne _ _ _ (by decide), h3] at hl; cases hl
    q0 := fun hl => by rw [lSet_ne _ _ _ (by decide), h7] at hl; cases hl
    y1 := fun hl => ⟨v, setRow_blk hy, own_fr hv f (on hv (by decide))⟩
    z1 := fun hl => by rw [lSet_ne _ _ _ (by decide), h9] at hl; cases hl }, fun j u hj hs => ?_⟩
  exact R.Sp_fr f j u (fun b l hb _ => bn hb (by decide)) (fun b l hb _ => bn hb (by decide)) (fun _ v n xs ho => on ho (by decide)) (fun _ v n xs ho => on ho (by decide)) hs

theorem RE.J.st9 (h : R.J L w) (h9 : L 9 = false) (h8 : L 8 = true) (h3 : L 3 = true) (h7 : L 7 = true) (v : Value) (hv : w.ownsRow R.O.base 35 1 v (R.n + 1) (R.vs ++ [R.pv])) :
    R.J (lSet L 9) (w.setRow R.O.zb #[v]) ∧ ∀ j u, L j = true → R.Sp j w u → R.Sp j (w.setRow R.O.zb #[v]) u := by
  have f := setRow_fr w R.O.zb #[v]
  obtain ⟨y, hy, hyo⟩ := h.y1 h8
  have hz := h.z0 h9
  have hyz : R.O.yb ≠ R.O.zb := fun e => by rw [e] at hy; exact absurd (hy.unique hz).1 (by decide)
  have on : ∀ {e : TypeId} {u : Value} {n : Nat} {xs : List Value}, w.ownsRow R.O.base e 1 u n xs → e ≠ 32 → ∀ k, u.ownBlock = some k → k ∉ [R.O.zb] := fun ho he k hk hx => by
    have e : k = R.O.zb := by simpa using hx
    subst e
    exact own_ne ho hz (Ne.symm he) (by simpa using hk)
  have bn : ∀ {b : Nat} {T : TypeId} {l : List Value}, Blk w b T l → T ≠ 32 → b ∉ [R.O.zb] := by
    intro b T l hb hT hx
    have e : b = R.O.zb := by simpa using hx
    rw [e] at hb
    exact hT (hb.unique hz).1
  refine ⟨{
    fr := h.fr.trans_same (f.mono (fun x hx => .inl (by simp at hx; simp [hx])))
    y0 := fun hl => by rw [lSet_ne _ _ _ (by decide), h8] at hl; cases hl
    z0 := fun hl => by rw [lSet_self] at hl; cases hl
    p0 := fun hl => by rw [lSet_ne _ _ _ (by decide), h3] at hl; cases hl
    q0 := fun hl => by rw [lSet_ne _ _ _ (by decide), h7] at hl; cases hl
    y1 := fun hl => ⟨y, hy.fr f (bn hy (by decide)), own_fr hyo f (on hyo (by decide))⟩
    z1 := fun hl => ⟨v, setRow_blk hz, own_fr hv f (on hv (by decide))⟩ }, fun j u hj hs => ?_⟩
  exact R.Sp_fr f j u (fun b l hb _ => bn hb (by decide)) (fun b l hb _ => bn hb (by decide)) (fun _ v n xs ho => on ho (by decide)) (fun _ v n xs ho => on ho (by decide)) hs
end

theorem PathsAre.keep {w w' : World} {base : Nat} {vs : List Value} {ps : List (List ByteArray)} (h : PathsAre w base vs ps) (k : TxtKeep base w w') : PathsAre w' base vs ps := ⟨h.1, fun i hi => k _ _ (h.2 i hi)⟩
theorem PathsAre.snoc {w : World} {base : Nat} {vs : List Value} {ps : List (List ByteArray)} {v : Value} {p : List ByteArray} (h : PathsAre w base vs ps) (hv : TextsIs w base v p) : PathsAre w base (vs ++ [v]) (ps ++ [p]) := by
  refine ⟨by simp [h.1], fun i hi => ?_⟩
  simp only [List.length_append, List.length_singleton] at hi
  by_cases h1 : i < vs.length
  · have := h.2 i h1
    rw [List.getD_eq_getElem?_getD, List.getD_eq_getElem?_getD] at this ⊢
    rw [List.getElem?_append_left h1, List.getElem?_append_left (by rw [← h.1]; exact h1)]
    exact this
  · obtain rfl : i = vs.length := by omega
    rw [List.getD_eq_getElem?_getD, List.getD_eq_getElem?_getD, List.getElem?_append_right (Nat.le_refl _), h.1, List.getElem?_append_right (Nat.le_refl _)]
    simpa using hv

/-- The region done: one more. -/
theorem RE.done {R : RE} {L : Nat → Bool} {w : World} {os : List Nat} {ps : List (List ByteArray)} {p : List ByteArray} (h : R.J L w) (h8 : L 8 = true) (h9 : L 9 = true) (hO : OSt R.O R.wc os ps) (hpl : R.pls = os.map (fun e => I64 e)) (hn : R.n = os.length)
    (hy : Blk R.wc R.O.yb 31 [R.v3]) (hyo : R.wc.ownsRow R.O.base 3 1 R.v3 R.n R.pls) (hz : Blk R.wc R.O.zb 32 [R.v35]) (hzo : R.wc.ownsRow R.O.base 35 1 R.v35 R.n R.vs) (hpa : PathsAre R.wc R.O.base R.vs ps) (hp : TextsIs R.wc R.O.base R.pv p) :
    OSt R.O w (os ++ [R.e]) (ps ++ [p]) ∧ TxtKeep R.O.base R.wc w := by
  have hne : ∀ {b : Nat} {T : TypeId} {l : List Value}, Blk R.wc b T l → T ≠ 31 → T ≠ 32 → T ≠ 3 → T ≠ 35 → b ∉ R.O.yb :: R.O.zb :: (R.v3.ownBlock.toList ++ R.v35.ownBlock.toList) := by
    intro b T l hb a1 a2 a3 a4 hx
    simp only [List.mem_cons, List.mem_append] at hx
    rcases hx with rfl | rfl | hx | hx
    · exact a1 (hb.unique hy).1
    · exact a2 (hb.unique hz).1
    · exact own_ne hyo hb a3 hx
    · exact own_ne hzo hb a4 hx
  have hk : TxtKeep R.O.base R.wc w := TxtKeep.of_fr h.fr (fun b cs hb => hne (T := 9) (l := cs.toList) (by simpa [Blk] using hb) (by decide) (by decide) (by decide) (by decide))
  obtain ⟨y, hy1, hy2⟩ := h.y1 h8
  obtain ⟨z, hz1, hz2⟩ := h.z1 h9
  have hb0 : ∀ x, x ∈ R.O.yb :: R.O.zb :: (R.v3.ownBlock.toList ++ R.v35.ownBlock.toList) → R.O.w0.heap.size ≤ x := by
    intro x hx
    simp only [List.mem_cons, List.mem_append] at hx
    rcases hx with rfl | rfl | hx | hx
    · exact hO.yb
    · exact hO.zb
    · exact (hyo.lt x (by simpa using hx)).1
    · exact (hzo.lt x (by simpa using hx)).1
  refine ⟨{
    rec_ := hO.rec_.fr h.fr (hne hO.rec_ (by decide) (by decide) (by decide) (by decide))
    box := hO.box.fr h.fr (hne hO.box (by decide) (by decide) (by decide) (by decide))
    row := by
      obtain ⟨l, hl, hc⟩ := hO.row
      exact ⟨l, hl.fr h.fr (hne hl (by decide) (by decide) (by decide) (by decide)), hc⟩
    fr := hO.fr.trans h.fr (fun x hx => .inr (hb0 x hx))
    yb := hO.yb
    zb := hO.zb
    pl := ⟨y, hy1, by rw [hpl, hn] at hy2; simpa using hy2⟩
    pa := ⟨z, R.vs ++ [R.pv], hz1, by rw [hn] at hz2; simpa using hz2, (hpa.keep hk).snoc (hk _ _ hp)⟩ }, hk⟩
end Go.Proofs.YtokpomdfgbbhlaaDoor

/- The contract of spec.Order's closure, by induction on the tree. -/
namespace Go.Proofs.YtokpomdfgbbhlaaDoor
open Go Go.RowKit

theorem info35 : (Tryd.prog.info? 35).map (fun i => (i.zero, i.size, i.bytes)) = some (some (.slice none 0 0), 1, 24) := by kernel_rfl

theorem own_lit0 (w : World) (e : TypeId) (base : Nat) (hb : base ≤ w.heap.size) : (w.alloc (.cells #[] e)).ownsRow base e 1 (.slice (some ⟨w.heap.size, 0, none⟩) 0 0) 0 [] := World.ownsRow_made w #[] 0 hb (by unfold maxLen; omega) rfl

/-- A path's texts appended onto an empty row of the call's own; the path may be nil. -/
theorem step_append_txt {ops : Array Oper} {o : Oper} {a : Act} {w : World} {K : Act → World → Prop} {Q : Exit → Act → World → Prop} {E : Prop} (hgd : o.guard = none) (s x : Operand) (ho : o.op = .call { callee := .builtin .append, args := #[s, x], argTypes := #[35, 35] })
    (base base0 : Nat) (v u : Value) (p : List ByteArray) (hs : a.eval s = v) (hown : w.ownsRow base 9 1 v 0 []) (hx : a.eval x = u) (hu : TextsIs w base0 u p) (hlen : p.length ≤ 100000) (hb : base ≤ w.heap.size)
    (h : ∀ v' w', w'.ownsRow base 9 1 v' p.length (p.map Value.string) → Fr v.ownBlock.toList w w' → K (a.put o.dst v') w') : if Region.wanted o (yielded ops a.tmps) = true then Oper.wp Tryd.prog o a w K Q else E := by
  have hw : Region.wanted o (yielded ops a.tmps) = true := by simp [Region.wanted, hgd]
  rw [if_pos hw]
  obtain ⟨i9, hi9, hz9, hs9, hb9⟩ := info_parts info9
  rcases hu.2 with ⟨rfl, hn⟩ | ⟨g, cap, cur, rfl, _, _, _, _, _, _⟩
  · obtain rfl : p = [] := List.eq_nil_of_length_eq_zero hn
    have hrun := run_append_owned_none (P := Tryd.prog) (w := w) base 35 o.type 9 i9 1 Tryd.underlying35 hi9 v 0 [] hown
    unfold Oper.wp
    simp only [execOp, ho, resolve, invoke, builtin, Sem.run_bind, Sem.run_pure, Result.andThen_ok, List.map_toArray, List.map_cons, List.map_nil, hs, hx, hrun]
    exact h v w hown (Fr.refl _ _)
  · have hnews : ∀ j y, (p.map Value.string)[j]? = some y → w.cell? ((⟨g, 0, none⟩ : Addr).add j) = some y := hu.cells rfl
    obtain ⟨v', w', hr, h2, h3, _⟩ := run_append_own (P := Tryd.prog) w base 35 o.type 9 i9 (.string { data := #[] }) 1 16 Tryd.underlying35 hi9 hz9 hs9 hb9 rfl (by decide) v 0 [] hown ⟨g, 0, none⟩ p.length cap (p.map Value.string) (by simp) hnews
      (fun y hy => by obtain ⟨b, _, rfl⟩ := List.mem_map.1 hy; rfl) (by unfold maxLen; omega) (by omega) hb
    rw [Nat.zero_add, List.nil_append] at h2
    unfold Oper.wp
    simp only [execOp, ho, resolve, invoke, builtin, Sem.run_bind, Sem.run_pure, Result.andThen_ok, List.map_toArray, List.map_cons, List.map_nil, hs, hx, hr]
    exact h v' w' h2 (Fr.of_grown h3)

theorem step_txt {ops : Array Oper} {o : Oper} {a : Act} {wc w : World} {K : Act → World → Prop} {Q : Exit → Act → World → Prop} {E : Prop} (hgd : o.guard = none) (s x : Operand) (ho : o.op = .call { callee := .builtin .append, args := #[s, x], argTypes := #[35, 35] })
    (base0 : Nat) (v u : Value) (p : List ByteArray) (hs : a.eval s = v) (hk : Fr [] wc w ∧ w.ownsRow wc.heap.size 9 1 v 0 []) (hx : a.eval x = u) (hu : TextsIs wc base0 u p) (hlen : p.length ≤ 100000)
    (h : ∀ v' w', w'.ownsRow wc.heap.size 9 1 v' p.length (p.map Value.string) → Fr [] wc w' → (∀ g l, Blk w g 9 l → v.ownBlock ≠ some g → Blk w' g 9 l) → K (a.put o.dst v') w') : if Region.wanted o (yielded ops a.tmps) = true then Oper.wp Tryd.prog o a w K Q else E :=
  step_append_txt hgd s x ho wc.heap.size base0 v u p hs hk.2 hx (own_fr0 hu hk.1) hlen hk.1.size (fun v' w' h1 h2 => h v' w' h1 (hk.1.own hk.2 (Nat.le_refl _) h2) (fun g l hb hn => hb.fr h2 (by simpa using hn)))

set_option maxRecDepth 100000 in
set_option maxHeartbeats 4000000 in
theorem order1_any (O : OEnv) (hN : O.N ≤ 20) (hcap : O.N ≤ O.lcap ∧ O.lcap ≤ 9223372036854775807) (t : NT) : ∀ (x : Int) (v : Value) (p : List ByteArray) (w : World) (os : List Nat) (ps : List (List ByteArray)), t.Fits O.nd x → (∀ e, e ∈ t.order → e < O.N) → OSt O w os ps → TextsIs w O.base v p →
    os.length + t.order.length ≤ 1000 → p.length + t.order.length ≤ 1000 →
    Calls Tryd.prog 33 #[.int .i64 x, v, .pointer (some ⟨O.fb, 0, none⟩), .pointer (some ⟨O.lx, 0, none⟩), .pointer (some ⟨O.yb, 0, none⟩), .pointer (some ⟨O.zb, 0, none⟩)] w fun e w' => e = .returned (.tuple #[]) ∧ OSt O w' (os ++ t.order) (ps ++ t.pths O.nm p) ∧ TxtKeep O.base w w' := by
  induction t with
  | nil =>
    intro x v p w os ps hfit _ hst hv _ _
    obtain rfl : x = -1 := hfit
    have HST := Lib.hid hst
    clear hst hv
    go_enter Tryd.func33, Tryd.ntmps33
    go_wp2_with fail
    exact bodyPost_ret (v := .tuple #[]) (by simp [results, Tryd.results33, go_sem]) rfl ⟨rfl, by simpa [NT.order, NT.pths] using HST.out, TxtKeep.refl _ _⟩
  | node e l c r ihl ihc ihr =>
    intro x v p w os ps hfit hlt hst hv hos hps
    obtain ⟨rfl, hfl, hfc, hfr⟩ := hfit
    have he : e < O.N := hlt e (by simp [NT.order])
    simp only [NT.order, List.length_append, List.length_cons] at hos hps
    obtain ⟨va, vc, rfl⟩ := own_slice hv
    have c0 : w.cell? ⟨O.fb, 0, none⟩ = some (.func (.func 33) #[] O.caps) := hst.rec_.cell 0
    have b0 : w.cell? ⟨O.lx, 0, none⟩ = some (.slice (some ⟨O.lb, 0, none⟩) O.N O.lcap) := hst.box.cell 0
    have n3 : w.cell? ⟨O.lb, e * 28 + 3, none⟩ = some (.int .i64 (O.nd e).left) := (hst.row.cell he (by omega)).trans rfl
    have heI : (e : Int) < (O.N : Int) := by omega
    have he0 : ¬ (e : Int) < 0 := by omega
    have ihl' := ihl (O.nd e).left _ p w.drew os ps hfl (fun y hy => hlt y (by simp [NT.order, hy])) ⟨hst.rec_, hst.box, hst.row, hst.fr.drew, hst.yb, hst.zb, hst.pl, hst.pa⟩ hv (by omega) (by omega)
    have HIL := Lib.hid ihl'
    have HV := Lib.hid hv
    have HST := Lib.hid hst
    have HLT := Lib.hid hlt
    have HFC := Lib.hid hfc
    have HFR := Lib.hid hfr
    have HIC := Lib.hid ihc
    have HIR := Lib.hid ihr
    clear ihl ihl' ihc ihr hv hst hlt hfl hfc hfr
    go_enter Tryd.func33, Tryd.ntmps33
    go_upto_region 1 with (fail)
    go_cut [] from 11 to 18 (fun w1 => OSt O w1 (os ++ l.order) (ps ++ l.pths O.nm p) ∧ TxtKeep O.base w w1)
    case first =>
      go_still_tail 7, (by kernel_rfl)
      change wpList _ _ _ _ _ w.drew
      go_wp2_with fail
      refine HIL.out.mono ?_
      rintro e1 w3 ⟨rfl, hs3, hk3⟩
      have H := Lib.hid (And.intro hs3 hk3)
      clear hs3 hk3
      go_wp2_with fail
      go_meet
      case rel => exact H.out
    case rest =>
    clear c0 b0 n3
    obtain ⟨hst, hk1⟩ := hcut
    have hv := hk1 _ _ HV.out
    obtain ⟨v3, hy, hyo⟩ := hst.pl
    obtain ⟨v35, vs, hz, hzo, hpa⟩ := hst.pa
    obtain ⟨a3, c3, rfl⟩ := own_slice hyo
    obtain ⟨a35, c35, rfl⟩ := own_slice hzo
    have hlen1 : (os ++ l.order).length ≤ 1000 := by rw [List.length_append]; omega
    generalize hos1 : os ++ l.order = os1 at *
    generalize hps1 : ps ++ l.pths O.nm p = ps1 at *
    have HOS1 := Lib.hid hos1
    have HPS1 := Lib.hid hps1
    clear hos1 hps1
    go_upto_region 2 with (fail)
    go_cut [] from 19 to 26 (fun w1 => OSt O w1 (os1 ++ [e]) (ps1 ++ [p]) ∧ TxtKeep O.base wc w1)
    case first =>
      obtain ⟨R, hR⟩ : ∃ R : RE, R = ⟨O, wc, .slice a3 os1.length c3, .slice a35 os1.length c35, .slice va p.length vc, e, os1.length, os1.map (fun e => I64 e), vs⟩ := ⟨_, rfl⟩
      have r1 : R.O = O := by rw [hR]
      refine wp_region_loose (J := R.J) (Sp := R.Sp) (by kernel_rfl) (by kernel_rfl) ?_ ?_ ?_
      · subst hR
        exact ⟨(Fr.refl _ _).drew, fun _ => hy, fun _ => hz, fun _ => hyo, fun _ => hzo, fun h => (by cases h), fun h => (by cases h)⟩
      · intro L a w1 i o hI hi hL hw
        have hj := hI.j
        have hbase : R.O.base ≤ w1.heap.size := Nat.le_trans (by rw [hR]; exact hst.fr.size) hj.fr.size
        have hnl : R.n ≤ 1000 := by rw [hR]; exact hlen1
        have same : ∀ i, i ≠ 3 ∧ i ≠ 7 ∧ i ≠ 8 ∧ i ≠ 9 → R.J (lSet L i) w1 := fun i hi => hj.alloc (Fr.refl _ _) i hi
        have nop : ∀ j u, L j = true → R.Sp j w1 u → R.Sp j w1 u := fun _ _ _ h => h
        rcases i with _ | _ | _ | _ | _ | _ | _ | _ | _ | _ | i
        · obtain rfl := Option.some.inj hi
          have h8 : L 8 = false := hI.before (j := 8) hL rfl (by kernel_rfl)
          have e4 := hI.outer 4 (by kernel_rfl) (.pointer (some ⟨O.yb, 0, none⟩)) rfl
          have hc : w1.cell? ⟨O.yb, 0, none⟩ = some R.v3 := by have := (hj.y0 h8).cell 0; rw [r1] at this; exact this
          rw [Array.getD_eq_getD_getElem?] at e4
          exact lw R.v3 (by simp [go_sem, e4, hc]) ⟨_, rfl, same 0 (by decide), nop, rfl⟩
        · obtain rfl := Option.some.inj hi
          have e0 := hI.outer 0 (by kernel_rfl) (.int .i64 e) rfl
          exact ow_move (.tmp 0) rfl (I64 R.e) (by rw [hR]; exact e0) ⟨_, rfl, same 1 (by decide), nop, rfl⟩
        · obtain rfl := Option.some.inj hi
          have l1 := waits_of hw 1 (by kernel_rfl)
          have v1 : a.tmps.getD 20 undef = I64 R.e := hI.val 1 _ 20 l1 rfl rfl
          have f := (Fr.refl [] w1).alloc (.cells #[I64 R.e] 3)
          exact ow_build1 trivial 31 3 (.tmp 20) rfl (I64 R.e) v1 rfl Tryd.underlying31 (by kernel_rfl) ⟨_, rfl, hj.alloc f 2 (by decide), fun j u _ => RE.Sp_alloc f j u, w1.heap.size, rfl, Blk.new' _ _ _, hj.fr.size⟩
        · obtain rfl := Option.some.inj hi
          have l0 := waits_of hw 0 (by kernel_rfl)
          have l2 := waits_of hw 2 (by kernel_rfl)
          have h8 : L 8 = false := hI.before (j := 8) hL rfl (by kernel_rfl)
          have h7 : L 7 = false := hI.before (j := 7) hL rfl (by kernel_rfl)
          have h9 : L 9 = false := hI.before (j := 9) h7 rfl (by kernel_rfl)
          have v0 : a.tmps.getD 19 undef = R.v3 := hI.val 0 _ 19 l0 rfl rfl
          obtain ⟨g, v2, hg, hge⟩ : ∃ g, a.tmps.getD 21 undef = .slice (some ⟨g, 0, none⟩) 1 1 ∧ Blk w1 g 3 [I64 R.e] ∧ R.wc.heap.size ≤ g := hI.val 2 _ 21 l2 rfl rfl
          obtain ⟨i3, hi3, hz3, hs3, hb3⟩ := info_parts info3
          have hw3 : R.wc.ownsRow R.O.base 3 1 R.v3 R.n R.pls := by rw [hR]; exact hyo
          refine ow_app (.tmp 19) (.tmp 21) 31 rfl 3 i3 (.int .i64 0) 1 8 Tryd.underlying31 hi3 hz3 hs3 hb3 rfl (by decide) R.O.base R.v3 R.n R.pls v0 (hj.p0 hL) ⟨g, 0, none⟩ 1 1 [I64 R.e] v2 rfl (fun j u hju => by rw [add_zero']; exact (hg.cell j).trans hju) (by simp [Value.oneCell']) (by unfold maxLen; omega) (by omega) ?_ ?_
          · exact hbase
          · intro v' w' ho hf
            obtain ⟨hJ, hS⟩ := hj.app3 hL h8 h9 hw3 hf
            exact ⟨_, rfl, hJ, hS, ho⟩
        · obtain rfl := Option.some.inj hi
          have h9 : L 9 = false := hI.before (j := 9) hL rfl (by kernel_rfl)
          have e5 := hI.outer 5 (by kernel_rfl) (.pointer (some ⟨O.zb, 0, none⟩)) rfl
          have hc : w1.cell? ⟨O.zb, 0, none⟩ = some R.v35 := by have := (hj.z0 h9).cell 0; rw [r1] at this; exact this
          rw [Array.getD_eq_getD_getElem?] at e5
          exact lw R.v35 (by simp [go_sem, e5, hc]) ⟨_, rfl, same 4 (by decide), nop, rfl⟩
        · obtain rfl := Option.some.inj hi
          have e1 := hI.outer 1 (by kernel_rfl) R.pv (by rw [hR]; rfl)
          exact ow_move (.tmp 1) rfl R.pv e1 ⟨_, rfl, same 5 (by decide), nop, rfl⟩
        · obtain rfl := Option.some.inj hi
          have l5 := waits_of hw 5 (by kernel_rfl)
          have v5 : a.tmps.getD 24 undef = R.pv := hI.val 5 _ 24 l5 rfl rfl
          have f := (Fr.refl [] w1).alloc (.cells #[R.pv] 35)
          exact ow_build1 trivial 32 35 (.tmp 24) rfl R.pv v5 (by rw [hR]; rfl) Tryd.underlying32 (by kernel_rfl) ⟨_, rfl, hj.alloc f 6 (by decide), fun j u _ => RE.Sp_alloc f j u, w1.heap.size, rfl, Blk.new' _ _ _, hj.fr.size⟩
        · obtain rfl := Option.some.inj hi
          have l4 := waits_of hw 4 (by kernel_rfl)
          have l6 := waits_of hw 6 (by kernel_rfl)
          have l3 := waits_of hw 3 (by kernel_rfl)
          have h8 : L 8 = false := hI.before (j := 8) hL rfl (by kernel_rfl)
          have h9 : L 9 = false := hI.before (j := 9) hL rfl (by kernel_rfl)
          have v4 : a.tmps.getD 23 undef = R.v35 := hI.val 4 _ 23 l4 rfl rfl
          obtain ⟨g, v6, hg, hge⟩ : ∃ g, a.tmps.getD 25 undef = .slice (some ⟨g, 0, none⟩) 1 1 ∧ Blk w1 g 35 [R.pv] ∧ R.wc.heap.size ≤ g := hI.val 6 _ 25 l6 rfl rfl
          obtain ⟨i35, hi35, hz35, hs35, hb35⟩ := info_parts info35
          have hw35 : R.wc.ownsRow R.O.base 35 1 R.v35 R.n R.vs := by rw [hR]; exact hzo
          have hone : R.pv.oneCell' = true := by rw [hR]; rfl
          refine ow_app (.tmp 23) (.tmp 25) 32 rfl 35 i35 (.slice none 0 0) 1 24 Tryd.underlying32 hi35 hz35 hs35 hb35 rfl (by decide) R.O.base R.v35 R.n R.vs v4 (hj.q0 hL) ⟨g, 0, none⟩ 1 1 [R.pv] v6 rfl (fun j u hju => by rw [add_zero']; exact (hg.cell j).trans hju) (by simpa using hone) (by unfold maxLen; omega) (by omega) hbase ?_
          intro v' w' ho hf
          obtain ⟨hJ, hS⟩ := hj.app7 hL h8 h9 l3 hw35 hf
          exact ⟨_, rfl, hJ, hS, ho⟩
        · obtain rfl := Option.some.inj hi
          have l3 := waits_of hw 3 (by kernel_rfl)
          have l7 := waits_of hw 7 (by kernel_rfl)
          have h9 : L 9 = false := hI.before (j := 9) hL rfl (by kernel_rfl)
          have e4 := hI.outer 4 (by kernel_rfl) (.pointer (some ⟨O.yb, 0, none⟩)) rfl
          have v3' : R.Sp 3 w1 (a.tmps.getD 22 undef) := hI.val 3 _ 22 l3 rfl rfl
          have v3o : w1.ownsRow R.O.base 3 1 (a.tmps.getD 22 undef) (R.n + 1) (R.pls ++ [I64 R.e]) := v3'
          obtain ⟨sa, sc, hsl⟩ := own_slice v3o
          obtain ⟨hJ, hS⟩ := hj.st8 hL h9 l3 l7 _ v3o
          rw [hsl] at hJ hS
          exact ow_store 31 (.tmp 4) (.tmp 22) rfl R.O.yb _ (by rw [r1]; exact e4) hsl rfl rfl 31 R.v3 (hj.y0 hL) (by kernel_rfl) ⟨_, rfl, hJ, hS, trivial⟩
        · obtain rfl := Option.some.inj hi
          have l7 := waits_of hw 7 (by kernel_rfl)
          have l8 := waits_of hw 8 (by kernel_rfl)
          have l3 := waits_of hw 3 (by kernel_rfl)
          have e5 := hI.outer 5 (by kernel_rfl) (.pointer (some ⟨O.zb, 0, none⟩)) rfl
          have v7' : R.Sp 7 w1 (a.tmps.getD 26 undef) := hI.val 7 _ 26 l7 rfl rfl
          have v7o : w1.ownsRow R.O.base 35 1 (a.tmps.getD 26 undef) (R.n + 1) (R.vs ++ [R.pv]) := v7'
          obtain ⟨sa, sc, hsl⟩ := own_slice v7o
          obtain ⟨hJ, hS⟩ := hj.st9 hL l8 l3 l7 _ v7o
          rw [hsl] at hJ hS
          exact ow_store 32 (.tmp 5) (.tmp 26) rfl R.O.zb _ (by rw [r1]; exact e5) hsl rfl rfl 32 R.v35 (hj.z0 hL) (by kernel_rfl) ⟨_, rfl, hJ, hS, trivial⟩
        · cases hi
      · intro L a w1 hI hall
        have hdone := RE.done hI.j (hall 8 (by decide)) (hall 9 (by decide)) (os := os1) (ps := ps1) (p := p) (by rw [hR]; exact hst) (by rw [hR]) (by rw [hR]) (by rw [hR]; exact hy) (by rw [hR]; exact hyo) (by rw [hR]; exact hz) (by rw [hR]; exact hzo) (by rw [hR]; exact hpa) (by rw [hR]; exact hv)
        have hlit := hI.lit [19, 20, 21, 22, 23, 24, 25, 26] (by kernel_rfl)
        rw [hR] at hdone
        have HD := Lib.hid hdone
        clear hdone
        rw [hlit]
        simp only [List.foldl, List.setIfInBounds_toArray, List.set_cons_succ, List.set_cons_zero]
        rename (∀ (a : Act) (w : World), Met _ a w → _) => hK
        refine hK _ _ ?_
        go_meet
        case rel => exact HD.out
    case rest =>
    obtain ⟨hst2, hk2⟩ := hcut
    have hv2 := hk2 _ _ hv
    have hkA : TxtKeep O.base w wc := hk1.trans hk2
    clear hy hyo hz hzo hpa hst hv hk1 hk2
    go_upto_if 29 with (fail)
    go_cut [8] from 28 to 39 (fun s8 w1 => OSt O w1 (os1 ++ [e]) (ps1 ++ [p]) ∧ TxtKeep O.base wc w1 ∧ TextsIs w1 O.base s8 (if e = 0 then p else p ++ [O.nm e]))
    case first =>
      have HST2 := Lib.hid hst2
      have HV2 := Lib.hid hv2
      by_cases h0 : e = 0
      · have hpI : ¬ (0 : Int) < (e : Int) := by omega
        clear hst2 hv2
        have H0 := Lib.hid h0
        clear h0
        go_wp2_with fail
        go_meet
        case rel => exact ⟨HST2.out, TxtKeep.refl _ _, by rw [if_pos H0.out]; exact HV2.out⟩
      · have hpI : (0 : Int) < (e : Int) := by omega
        have q0 : wc.cell? ⟨O.lx, 0, none⟩ = some (.slice (some ⟨O.lb, 0, none⟩) O.N O.lcap) := hst2.box.cell 0
        have q1 : wc.cell? ⟨O.lb, e * 28, none⟩ = some (.string (O.nm e)) := (hst2.row.cell (j := 0) he (by omega)).trans rfl
        have hplen2 : p.length ≤ 100000 := by omega
        clear hst2 hv2
        have hfc : Fr [] wc wc.drew := (Fr.refl _ _).drew
        go_upto_region 5 with (fail)
        have hsz : wc.heap.size ≤ wc.drew.heap.size := Nat.le_refl _
        have KA : Fr [] wc (wc.alloc (.cells #[] 9)).drew ∧ (wc.alloc (.cells #[] 9)).drew.ownsRow wc.heap.size 9 1 (.slice (some ⟨wc.heap.size, 0, none⟩) 0 0) 0 [] := ⟨((Fr.refl [] wc).alloc _).drew, own_fr0 (own_lit0 wc 9 _ (Nat.le_refl _)) (Fr.refl [] _).drew⟩
        have KB : Fr [] wc ((wc.alloc (.cells #[] 9)).alloc (.cells #[.string (O.nm e)] 9)).drew ∧ (((wc.alloc (.cells #[] 9)).alloc (.cells #[.string (O.nm e)] 9)).drew).ownsRow wc.heap.size 9 1 (.slice (some ⟨wc.heap.size, 0, none⟩) 0 0) 0 [] :=
          ⟨(((Fr.refl [] wc).alloc _).alloc _).drew, own_fr0 (own_lit0 wc 9 _ (Nat.le_refl _)) ((Fr.refl [] _).alloc _).drew⟩
        have KC : Fr [] wc ((wc.alloc (.cells #[.string (O.nm e)] 9)).alloc (.cells #[] 9)).drew ∧ (((wc.alloc (.cells #[.string (O.nm e)] 9)).alloc (.cells #[] 9)).drew).ownsRow wc.heap.size 9 1 (.slice (some ⟨wc.heap.size + 1, 0, none⟩) 0 0) 0 [] :=
          ⟨(((Fr.refl [] wc).alloc _).alloc _).drew, own_fr0 (by have := own_lit0 (wc.alloc (.cells #[.string (O.nm e)] 9)) 9 wc.heap.size (by rw [World.size_alloc]; exact Nat.le_succ _); rw [World.size_alloc] at this; exact this) (Fr.refl [] _).drew⟩
        have BB : Blk (((wc.alloc (.cells #[] 9)).alloc (.cells #[.string (O.nm e)] 9)).drew) (wc.heap.size + 1) 9 [.string (O.nm e)] := by have := Blk.new' (wc.alloc (.cells #[] 9)) 9 #[.string (O.nm e)]; rw [World.size_alloc] at this; exact this
        have BC : Blk (((wc.alloc (.cells #[.string (O.nm e)] 9)).alloc (.cells #[] 9)).drew) wc.heap.size 9 [.string (O.nm e)] := ((Blk.new' wc 9 #[.string (O.nm e)]).alloc _).drew
        have HKA := Lib.hid KA
        have HKB := Lib.hid KB
        have HKC := Lib.hid KC
        have HBB := Lib.hid BB
        have HBC := Lib.hid BC
        obtain ⟨i9, hi9, hz9, hs9, hb9⟩ := info_parts info9
        have HI9 := Lib.hid (And.intro hi9 (And.intro hz9 (And.intro hs9 hb9)))
        clear KA KB KC BB BC hi9 hz9 hs9 hb9 hsz
        go_region_held3 (fun w' => w'.cell? ⟨O.lx, 0, none⟩ = some (.slice (some ⟨O.lb, 0, none⟩) O.N O.lcap) ∧ w'.cell? ⟨O.lb, e * 28, none⟩ = some (.string (O.nm e)))
          (first | exact ⟨hfc.cell0 q0, hfc.cell0 q1⟩ | exact ⟨(hfc.alloc _).cell0 q0, (hfc.alloc _).cell0 q1⟩ | exact ⟨((hfc.alloc _).alloc _).cell0 q0, ((hfc.alloc _).alloc _).cell0 q1⟩)
          (first
            | (refine step_append_own rfl (.tmp 32) (.tmp 38) 35 rfl wc.heap.size 9 i9 (.string { data := #[] }) 1 16 Tryd.underlying35 HI9.out.1 HI9.out.2.1 HI9.out.2.2.1 HI9.out.2.2.2 rfl (by decide) v32 p.length (p.map Value.string) rfl ?_ ⟨_, 0, none⟩ 1 1 [.string (O.nm e)] rfl rfl ?_ ?_ ?_ ?_ ?_ ?_
               · first | with_reducible exact HR32.out | with_reducible exact HRA.out
               · first | (intro j u hj; rw [add_zero']; exact (hB38.out.cell j).trans hj) | exact news_new _ _ _ rfl
               · intro u hu; obtain rfl := List.mem_singleton.1 hu; rfl
               · unfold maxLen; omega
               · omega
               · first | exact hfc.size | exact (hfc.alloc _).size
               rintro v39 w4 hr39 hg39
               have hfc4 : Fr [] wc w4 := by first | exact hfc.own HR32.out (Nat.le_refl _) (Fr.of_grown hg39) | exact (hfc.alloc _).own HRA.out (Nat.le_refl _) (Fr.of_grown hg39)
               have HR39 := Lib.hid hr39
               clear hfc hr39 hg39
               have hfc := hfc4
               clear hfc4)
            | (refine step_txt (wc := wc) rfl (.tmp 30) (.tmp 31) rfl O.base (.slice (some ⟨wc.heap.size, 0, none⟩) 0 0) _ p rfl (by with_reducible exact HKA.out) rfl HV2.out hplen2 ?_
               rintro v32 w3 hr32 hfc3 hkeep
               have HRA := Lib.hid (own_fr0 hr32 ((Fr.refl [] w3).alloc (.cells #[.string (O.nm e)] 9)))
               have HR32 := Lib.hid hr32
               clear hfc hkeep hr32
               have hfc := hfc3
               clear hfc3)
            | (refine step_txt (wc := wc) rfl (.tmp 30) (.tmp 31) rfl O.base (.slice (some ⟨wc.heap.size, 0, none⟩) 0 0) _ p rfl (by with_reducible exact HKB.out) rfl HV2.out hplen2 ?_
               rintro v32 w3 hr32 hfc3 hkeep
               have hB38 := Lib.hid (hkeep (wc.heap.size + 1) [.string (O.nm e)] HBB.out (by simp [Value.ownBlock]))
               have HRA := Lib.hid (own_fr0 hr32 ((Fr.refl [] w3).alloc (.cells #[.string (O.nm e)] 9)))
               have HR32 := Lib.hid hr32
               clear hfc hkeep hr32
               have hfc := hfc3
               clear hfc3)
            | (refine step_txt (wc := wc) rfl (.tmp 30) (.tmp 31) rfl O.base (.slice (some ⟨wc.heap.size + 1, 0, none⟩) 0 0) _ p rfl (by with_reducible exact HKC.out) rfl HV2.out hplen2 ?_
               rintro v32 w3 hr32 hfc3 hkeep
               have hB38 := Lib.hid (hkeep wc.heap.size [.string (O.nm e)] HBC.out (by simp [Value.ownBlock]))
               have HRA := Lib.hid (own_fr0 hr32 ((Fr.refl [] w3).alloc (.cells #[.string (O.nm e)] 9)))
               have HR32 := Lib.hid hr32
               clear hfc hkeep hr32
               have hfc := hfc3
               clear hfc3))
        all_goals
          have hres : TextsIs w4 O.base v39 (p ++ [O.nm e]) := by
            have := own_mono HR39.out (show O.base ≤ wc.heap.size from HST2.out.fr.size)
            simpa [TextsIs] using this
          have hst4 : OSt O w4 (os1 ++ [e]) (ps1 ++ [p]) := HST2.out.fr0 hfc
          have hkp : TxtKeep O.base wc w4 := TxtKeep.of_fr hfc (fun _ _ _ => by simp)
          obtain ⟨ra, rc, rfl⟩ := own_slice hres
          have HF := Lib.hid (And.intro hst4 (And.intro hkp hres))
          clear hres hst4 hkp
          go_wp2_with fail
          go_meet
          case rel => exact ⟨HF.out.1, HF.out.2.1, by rw [if_neg h0]; have h := HF.out.2.2; rw [List.length_append, List.length_singleton] at h; exact h⟩
    case rest =>
    obtain ⟨hst3, hk3, hv3⟩ := hcut
    have hp3 := hk3 _ _ hv2
    have hkB : TxtKeep O.base w wc := hkA.trans hk3
    clear hst2 hv2 hkA hk3
    obtain ⟨ba, bc, rfl⟩ := own_slice hv3
    have hbl : (if e = 0 then p else p ++ [O.nm e]).length ≤ p.length + 1 := by split <;> simp
    generalize hpc : (if e = 0 then p else p ++ [O.nm e]) = pc at *
    have HPC := Lib.hid hpc
    clear hpc
    have hfc := HFC.out
    have hlt := HLT.out
    have hos1l : os1.length = os.length + l.order.length := by rw [← HOS1.out, List.length_append]
    have c0 : wc.cell? ⟨O.fb, 0, none⟩ = some (.func (.func 33) #[] O.caps) := hst3.rec_.cell 0
    have b0 : wc.cell? ⟨O.lx, 0, none⟩ = some (.slice (some ⟨O.lb, 0, none⟩) O.N O.lcap) := hst3.box.cell 0
    have n5 : wc.cell? ⟨O.lb, e * 28 + 5, none⟩ = some (.int .i64 (O.nd e).child) := (hst3.row.cell he (by omega)).trans rfl
    have ihc' := HIC.out (O.nd e).child _ pc wc.drew (os1 ++ [e]) (ps1 ++ [p]) hfc (fun y hy => hlt y (by simp [NT.order, hy])) (hst3.fr0 (Fr.refl _ _).drew) hv3 (by simp; omega) (by omega)
    have HI := Lib.hid ihc'
    have HV3 := Lib.hid hp3
    have HKB := Lib.hid hkB
    have HOSL := Lib.hid hos1l
    clear ihc' hst3 hfc hlt hv3 hp3 hkB hos1l
    go_upto_region 6 with (fail)
    go_cut [] from 40 to 47 (fun w1 => OSt O w1 (os1 ++ [e] ++ c.order) (ps1 ++ [p] ++ c.pths O.nm pc) ∧ TxtKeep O.base wc w1)
    case first =>
      go_still_tail 7, (by kernel_rfl)
      change wpList _ _ _ _ _ wc.drew
      go_wp2_with fail
      refine HI.out.mono ?_
      rintro e1 w3 ⟨rfl, hs3, hk3⟩
      have H := Lib.hid (And.intro hs3 hk3)
      clear hs3 hk3
      go_wp2_with fail
      go_meet
      case rel => exact H.out
    case rest =>
    clear c0 b0 n5
    obtain ⟨hst4, hk4⟩ := hcut
    have hp4 := hk4 _ _ HV3.out
    have hk5 : TxtKeep O.base w wc := HKB.out.trans hk4
    have c0 : wc.cell? ⟨O.fb, 0, none⟩ = some (.func (.func 33) #[] O.caps) := hst4.rec_.cell 0
    have b0 : wc.cell? ⟨O.lx, 0, none⟩ = some (.slice (some ⟨O.lb, 0, none⟩) O.N O.lcap) := hst4.box.cell 0
    have n4 : wc.cell? ⟨O.lb, e * 28 + 4, none⟩ = some (.int .i64 (O.nd e).right) := (hst4.row.cell he (by omega)).trans rfl
    have hlen := HOSL.out
    have ihr' := HIR.out (O.nd e).right _ p wc.drew (os1 ++ [e] ++ c.order) (ps1 ++ [p] ++ c.pths O.nm pc) HFR.out (fun y hy => HLT.out y (by simp [NT.order, hy])) (hst4.fr0 (Fr.refl _ _).drew) hp4 (by simp; omega) (by omega)
    have e1 : os1 ++ [e] ++ c.order ++ r.order = os ++ (NT.node e l c r).order := by rw [← HOS1.out]; simp [NT.order]
    have e2 : ps1 ++ [p] ++ c.pths O.nm pc ++ r.pths O.nm p = ps ++ (NT.node e l c r).pths O.nm p := by rw [← HPS1.out, ← HPC.out]; simp [NT.pths]
    rw [e1, e2] at ihr'
    have HI2 := Lib.hid ihr'
    have HK5 := Lib.hid hk5
    clear ihr' hst4 hp4 hk5 hk4 hlen e1 e2
    go_upto_region 7 with (fail)
    go_still_tail 7, (by kernel_rfl)
    change wpList _ _ _ _ _ wc.drew
    go_wp2_with fail
    refine HI2.out.mono ?_
    rintro e1 w3 ⟨rfl, hs3, hk3⟩
    have H := Lib.hid (And.intro hs3 (HK5.out.trans (show TxtKeep O.base wc w3 from hk3)))
    clear hs3 hk3
    go_wp2_with fail
    go_end0
    exact ⟨rfl, H.out⟩
end Go.Proofs.YtokpomdfgbbhlaaDoor

/- The contract of spec.Order. -/
namespace Go.Proofs.YtokpomdfgbbhlaaDoor
open Go Go.RowKit

theorem run_store_func' (w : World) (a : Addr) (fn : Fn) (first cap : Array Value) (m : Mode) : (store a (.func fn first cap) m).run Tryd.prog w = stored Tryd.prog w a (.func fn first cap) m := run_store Tryd.prog w a _ m rfl
attribute [local go_sem] run_store_func'

set_option maxRecDepth 100000 in
set_option maxHeartbeats 1000000 in
theorem order_any (lb N lcap : Nat) (hN : N ≤ 20) (hcap : N ≤ lcap ∧ lcap ≤ 9223372036854775807) (nd : Nat → Nd) (dv : Nat → Value) (t : NT) (w : World) (hrow : NdRow w lb N nd dv) (hfit : t.Fits nd 0) (hlt : ∀ e, e ∈ t.order → e < N) (hlen : t.order.length ≤ 900) :
    Calls Tryd.prog 12 #[.slice (some ⟨lb, 0, none⟩) N lcap] w fun e w' => ∃ v1 v2 vs, e = .returned (.tuple #[v1, v2]) ∧ Fr [] w w' ∧ w'.ownsRow w.heap.size 3 1 v1 t.order.length (t.order.map (fun e => I64 e)) ∧ w'.ownsRow w.heap.size 35 1 v2 t.order.length vs ∧ PathsAre w' w.heap.size vs (t.pths (fun k => (nd k).name) []) := by
  have hmf : ∀ (fn : Fn) (first cap : Array Value) (w : World), (Instr.makeFunc fn first cap).run Tryd.prog w = .ok (.func fn first cap) w := fun _ _ _ _ => rfl
  go_enter Tryd.func12, Tryd.ntmps12
  go_upto_region 3 with (fail)
  generalize hn : w.heap.size = n at *
  replace hn := hn.symm
  generalize hq1 : w.alloc (Obj.cells #[Value.slice (some { block := lb, off := 0 }) N lcap] 25) = q1
  generalize hq2 : q1.alloc (Obj.cells #[] 3) = q2
  generalize hq3 : q2.alloc (Obj.cells #[] 35) = q3
  generalize hq4 : q3.alloc (Obj.cells #[Value.slice (some { block := n + 1, off := 0 }) 0 0] 31) = q4
  generalize hq5 : q4.alloc (Obj.cells #[Value.slice (some { block := n + 1 + 1, off := 0 }) 0 0] 32) = q5
  generalize hq6 : q5.alloc (Obj.cells #[Value.nilFunc] 102) = q6
  replace hq1 := hq1.symm
  replace hq2 := hq2.symm
  replace hq3 := hq3.symm
  replace hq4 := hq4.symm
  replace hq5 := hq5.symm
  replace hq6 := hq6.symm
  have z1 : q1.heap.size = n + 1 := by rw [hq1, hn]; simp
  have z2 : q2.heap.size = n + 1 + 1 := by rw [hq2]; simp [z1]
  have z3 : q3.heap.size = n + 1 + 1 + 1 := by rw [hq3]; simp [z2]
  have z4 : q4.heap.size = n + 1 + 1 + 1 + 1 := by rw [hq4]; simp [z3]
  have z5 : q5.heap.size = n + 1 + 1 + 1 + 1 + 1 := by rw [hq5]; simp [z4]
  have z6 : q6.heap.size = n + 1 + 1 + 1 + 1 + 1 + 1 := by rw [hq6]; simp [z5]
  have e1 : Fr [] w q1 := by rw [hq1]; exact (Fr.refl _ _).alloc _
  have e2 : Fr [] q1 q2 := by rw [hq2]; exact (Fr.refl _ _).alloc _
  have e3 : Fr [] q2 q3 := by rw [hq3]; exact (Fr.refl _ _).alloc _
  have e4 : Fr [] q3 q4 := by rw [hq4]; exact (Fr.refl _ _).alloc _
  have e5 : Fr [] q4 q5 := by rw [hq5]; exact (Fr.refl _ _).alloc _
  have e6 : Fr [] q5 q6 := by rw [hq6]; exact (Fr.refl _ _).alloc _
  have b1 : Blk q1 n 25 [Value.slice (some { block := lb, off := 0 }) N lcap] := by rw [hq1, hn]; exact Blk.new' _ _ _
  have o2 : q2.ownsRow n 3 1 (.slice (some ⟨n + 1, 0, none⟩) 0 0) 0 [] := by rw [hq2, ← z1]; exact own_lit0 q1 3 n (by omega)
  have o3 : q3.ownsRow n 35 1 (.slice (some ⟨n + 1 + 1, 0, none⟩) 0 0) 0 [] := by rw [hq3, ← z2]; exact own_lit0 q2 35 n (by omega)
  have b4 : Blk q4 (n + 1 + 1 + 1) 31 [Value.slice (some { block := n + 1, off := 0 }) 0 0] := by rw [hq4, ← z3]; exact Blk.new' _ _ _
  have b5 : Blk q5 (n + 1 + 1 + 1 + 1) 32 [Value.slice (some { block := n + 1 + 1, off := 0 }) 0 0] := by rw [hq5, ← z4]; exact Blk.new' _ _ _
  have b6 : Blk q6 (n + 1 + 1 + 1 + 1 + 1) 102 [Value.nilFunc] := by rw [hq6, ← z5]; exact Blk.new' _ _ _
  have B1 := (((((b1.fr0 e2).fr0 e3).fr0 e4).fr0 e5).fr0 e6)
  have O2 := own_fr0 (own_fr0 (own_fr0 (own_fr0 o2 e3) e4) e5) e6
  have O3 := own_fr0 (own_fr0 (own_fr0 o3 e4) e5) e6
  have B4 := (b4.fr0 e5).fr0 e6
  have B5 := b5.fr0 e6
  have F6 := ((((e1.trans0 e2).trans0 e3).trans0 e4).trans0 e5).trans0 e6
  clear hq1 hq2 hq3 hq4 hq5 hq6 e1 e2 e3 e4 e5 e6 b1 o2 o3 b4 b5 z1 z2 z3 z4 z5
  have c0 : q6.cell? ⟨n + 1 + 1 + 1 + 1 + 1, 0, none⟩ = some .nilFunc := b6.cell 0
  have cz := b6.frozen 0
  have HN := Lib.hid hn
  have Z6 := Lib.hid z6
  clear hn z6
  go_upto_region 4 with (fail)
  have hn := HN.out
  have z6 := Z6.out
  obtain ⟨O, hO⟩ : ∃ O : OEnv, O = { fb := n + 1 + 1 + 1 + 1 + 1, lx := n, yb := n + 1 + 1 + 1, zb := n + 1 + 1 + 1 + 1, lb := lb, N := N, lcap := lcap, nd := nd, dv := dv, w0 := w } := ⟨_, rfl⟩
  obtain ⟨fv, hfv⟩ : ∃ v, v = Value.func (.func 33) #[] #[.pointer (some ⟨n + 1 + 1 + 1 + 1 + 1, 0, none⟩), .pointer (some ⟨n, 0, none⟩), .pointer (some ⟨n + 1 + 1 + 1, 0, none⟩), .pointer (some ⟨n + 1 + 1 + 1 + 1, 0, none⟩)] := ⟨_, rfl⟩
  have hlbn : lb < n := by obtain ⟨l, hl, _⟩ := hrow; rw [hn]; exact hl.lt
  have F7 : Fr [n + 1 + 1 + 1 + 1 + 1] q6 (q6.setCell ⟨n + 1 + 1 + 1 + 1 + 1, 0, none⟩ fv) := (Fr.refl _ _).setCell (.inl (by simp)) _
  have hst : OSt O (q6.setCell ⟨n + 1 + 1 + 1 + 1 + 1, 0, none⟩ fv) [] [] := by
    subst hO
    exact {
      rec_ := by have := b6.set 0 fv; rw [hfv] at this ⊢; exact this
      box := B1.fr F7 (by simp; omega)
      row := (hrow.fr F6 (by simp)).fr F7 (by simp; omega)
      fr := F6.trans F7 (fun x hx => .inr (by simp at hx; omega))
      yb := by show w.heap.size ≤ n + 1 + 1 + 1; omega
      zb := by show w.heap.size ≤ n + 1 + 1 + 1 + 1; omega
      pl := ⟨_, B4.fr F7 (by simp), by
        show World.ownsRow _ w.heap.size _ _ _ _ _
        rw [← hn]
        exact own_fr O2 F7 (by simp [Value.ownBlock])⟩
      pa := ⟨_, [], B5.fr F7 (by simp), by
        show World.ownsRow _ w.heap.size _ _ _ _ _
        rw [← hn]
        exact own_fr O3 F7 (by simp [Value.ownBlock]), rfl, fun i hi => by simp at hi⟩ }
  clear B1 O2 O3 B4 B5 F6 F7 b6 c0 cz
  rw [hfv] at hst
  clear hfv
  generalize q6.setCell ⟨n + 1 + 1 + 1 + 1 + 1, 0, none⟩ (.func (.func 33) #[] #[.pointer (some ⟨n + 1 + 1 + 1 + 1 + 1, 0, none⟩), .pointer (some ⟨n, 0, none⟩), .pointer (some ⟨n + 1 + 1 + 1, 0, none⟩), .pointer (some ⟨n + 1 + 1 + 1 + 1, 0, none⟩)]) = w4 at *
  have c0 : w4.cell? ⟨n + 1 + 1 + 1 + 1 + 1, 0, none⟩ = some (.func (.func 33) #[] #[.pointer (some ⟨n + 1 + 1 + 1 + 1 + 1, 0, none⟩), .pointer (some ⟨n, 0, none⟩), .pointer (some ⟨n + 1 + 1 + 1, 0, none⟩), .pointer (some ⟨n + 1 + 1 + 1 + 1, 0, none⟩)]) := by
    have := hst.rec_.cell 0
    subst hO
    exact this
  have hcon := Lib.hid (order1_any O (by subst hO; exact hN) (by subst hO; exact hcap) t 0 (.slice none 0 0) [] w4 [] [] (by subst hO; exact hfit) (by subst hO; exact hlt) hst ⟨rfl, .inl ⟨rfl, rfl⟩⟩ (by simp; omega) (by simp; omega))
  rw [hO] at hcon
  clear hn
  clear hst
  go_wp2_with fail
  refine hcon.out.mono ?_
  rintro e w6 ⟨rfl, hP, _⟩
  rw [List.nil_append, List.nil_append] at hP
  obtain ⟨v1, hv1, ho1⟩ := hP.pl
  obtain ⟨v2, vs, hv2, ho2, hpa⟩ := hP.pa
  have hfr := hP.fr
  have c1 : w6.cell? ⟨n + 1 + 1 + 1, 0, none⟩ = some v1 := hv1.cell 0
  have c2 : w6.cell? ⟨n + 1 + 1 + 1 + 1, 0, none⟩ = some v2 := hv2.cell 0
  have HPs := Lib.hid (And.intro hfr (And.intro ho1 (And.intro ho2 hpa)))
  clear hP hv1 hv2 ho1 ho2 hpa hfr
  go_upto_region 5 with (fail)
  go_quiet (fail)
  go_wp2_with fail
  obtain ⟨hfr, ho1, ho2, hpa⟩ := HPs.out
  exact bodyPost_ret (v := .tuple #[v1, v2]) (by simp [results, Tryd.results12, go_sem]) rfl ⟨_, _, vs, rfl, hfr.drewN _, own_fr0 ho1 ((Fr.refl _ _).drewN _), own_fr0 ho2 ((Fr.refl _ _).drewN _), hpa.1, fun i hi => own_fr0 (hpa.2 i hi) ((Fr.refl _ _).drewN _)⟩
end Go.Proofs.YtokpomdfgbbhlaaDoor

/- What entries of a written file are, whichever size its sectors have. -/
namespace Go.Proofs.YtokpomdfgbbhlaaDoor
open Go Go.RowKit Go.Maps

def kindN (x : Nd) (e : Nat) : Nat := if e = 0 then 5 else if x.stream = true then 2 else 1
/-- The cells of the entry of node e. -/
def eCells (x : Nd) (e : Nat) (pv : Value) : List Value :=
  [.string x.name, pv, .int .i64 (kindN x e : Nat), .int .i64 (if x.stream = true then (x.len : Int) else 0), .int .i64 ((x.name.data.toList.getD 0 0).toNat : Nat)] ++ (guidA x.cls).toList ++ (stateA x.sts).toList ++ [.int .u64 x.cr, .int .u64 x.md]
theorem eCells_length (x : Nd) (e : Nat) (pv : Value) : (eCells x e pv).length = 27 := by simp [eCells, guidA, stateA]
theorem eCells_one (x : Nd) (e : Nat) (a : Option Addr) (n c : Nat) : ∀ u ∈ eCells x e (.slice a n c), u.oneCell' = true := by
  intro u hu
  simp only [eCells, guidA, stateA, List.mem_append, List.mem_cons, List.not_mem_nil, or_false, tab, List.toList_toArray, List.mem_map] at hu
  rcases hu with ((h | ⟨i, _, rfl⟩) | ⟨i, _, rfl⟩) | h
  · rcases h with rfl | rfl | rfl | rfl | rfl <;> rfl
  · rfl
  · rfl
  · rcases h with rfl | rfl <;> rfl
theorem ent_eq {L : Lay} {F : Nat → UInt8} {fat mfat : Nat → Nat} {W : Nat → UInt8} (hW : Wrote L F fat mfat W) (hL : LayOK L) (hB : L.bytes ≤ 131072) (e : Nat) (he : e < L.N) (pv : Value) :
    entCells (L.EP e) pv (entB F L.sz (L.chn 0) e) = eCells (L.nd e) e pv := by
  have hE := Nat.lt_of_lt_of_le he (hW.N_le hL hB)
  have hf := hW.ent_flds hL hB e hE he
  have h1 : ((entB F L.sz (L.chn 0) e 66).toNat : Nat) = kindN (L.nd e) e := by
    rw [hf.kind]
    unfold Lay.kindOf kindN byteN
    split
    · rfl
    · split <;> rfl
  have h2 : (guidA fun j => entB F L.sz (L.chn 0) e (80 + j)) = guidA (L.nd e).cls := by
    unfold guidA
    congr 1
    exact tab_congr (fun i hi => congrArg U8 (hf.cls i hi))
  have h3 : (stateA fun j => entB F L.sz (L.chn 0) e (96 + j)) = stateA (L.nd e).sts := by
    unfold stateA
    congr 1
    exact tab_congr (fun i hi => congrArg U8 (hf.sts i hi))
  unfold entCells eCells Lay.EP
  rw [if_pos he, h1, h2, h3, hf.cr, hf.md]
  rfl

/-- The entries' cells. -/
def eRows (k : Nat) (o : Nat → Nat) (nd : Nat → Nd) (pth : Nat → Value) : List Value := (List.range k).flatMap (fun i => eCells (nd (o i)) (o i) (pth i))
theorem eRows_get (n : Nat) (o : Nat → Nat) (nd : Nat → Nd) (pth : Nat → Value) (k j : Nat) (hk : k < n) (hj : j < 27) : (eRows n o nd pth)[k * 27 + j]? = (eCells (nd (o k)) (o k) (pth k))[j]? := by
  induction n with
  | zero => omega
  | succ n ih =>
    have hl : ∀ m, (eRows m o nd pth).length = m * 27 := by
      intro m
      induction m with
      | zero => rfl
      | succ m ih2 =>
        have : eRows (m + 1) o nd pth = eRows m o nd pth ++ eCells (nd (o m)) (o m) (pth m) := by unfold eRows; rw [List.range_succ, List.flatMap_append]; simp
        rw [this, List.length_append, ih2, eCells_length]; omega
    have : eRows (n + 1) o nd pth = eRows n o nd pth ++ eCells (nd (o n)) (o n) (pth n) := by unfold eRows; rw [List.range_succ, List.flatMap_append]; simp
    rw [this]
    by_cases hkn : k < n
    · rw [List.getElem?_append_left (by rw [hl]; omega)]
      exact ih hkn
    · obtain rfl : k = n := by omega
      rw [List.getElem?_append_right (by rw [hl]; omega), hl]
      congr 1
      omega

/-- A slice of entries. -/
def EntsAre (w : World) (base : Nat) (v : Value) (n : Nat) (o : Nat → Nat) (nd : Nat → Nd) (ps : Nat → List ByteArray) : Prop :=
  ∃ (b cap : Nat) (pth : Nat → Value), v = .slice (some ⟨b, 0, none⟩) n cap ∧ n ≤ cap ∧ cap ≤ 9223372036854775807 ∧ (∀ k j u, k < n → j < 27 → (eCells (nd (o k)) (o k) (pth k))[j]? = some u → w.cell? ⟨b, k * 27 + j, none⟩ = some u) ∧ ∀ i, i < n → TextsIs w base (pth i) (ps i)
theorem EntsAre.fr {w w' : World} {base n : Nat} {v : Value} {o : Nat → Nat} {nd : Nat → Nd} {ps : Nat → List ByteArray} (h : EntsAre w base v n o nd ps) (f : Fr [] w w') : EntsAre w' base v n o nd ps := by
  obtain ⟨b, cap, pth, h1, h2, h3, h4, h5⟩ := h
  exact ⟨b, cap, pth, h1, h2, h3, fun k j u hk hj hu => f.cell0 (h4 k j u hk hj hu), fun i hi => own_fr0 (h5 i hi) f⟩
theorem EntsAre.of {w : World} {base n : Nat} {v : Value} {o : Nat → Nat} {nd : Nat → Nd} {ps : Nat → List ByteArray} {pth : Nat → Value} (hn : 1 ≤ n) (h : w.ownsRow base 40 27 v n (eRows n o nd pth)) (ht : ∀ i, i < n → TextsIs w base (pth i) (ps i)) : EntsAre w base v n o nd ps := by
  obtain ⟨b, cap, l, rfl, h1, h2, h3, h4, h5, _⟩ := own_blkS h hn
  refine ⟨b, cap, pth, rfl, h4, h5, fun k j u hk hj hu => ?_, ht⟩
  rw [h2.cell, h3 _ (by omega), eRows_get _ _ _ _ _ _ hk hj]
  exact hu

theorem NT.pths_congr {nm nm' : Nat → ByteArray} : ∀ (t : NT) (p : List ByteArray), (∀ e, e ∈ t.order → nm e = nm' e) → t.pths nm p = t.pths nm' p
  | .nil, _, _ => rfl
  | .node e l c r, p, h => by
    simp only [NT.pths]
    rw [NT.pths_congr l p (fun x hx => h x (by simp [NT.order, hx])), NT.pths_congr c _ (fun x hx => h x (by simp [NT.order, hx])), NT.pths_congr r p (fun x hx => h x (by simp [NT.order, hx])), h e (by simp [NT.order])]
/-- Entries of a written file. -/
theorem entries_wrote {base lb N : Nat} {w : World} {nd : Nat → Nd} {dv : Nat → Value} {t : NT} (h : NodesOK base lb N w nd dv t) (L : Lay) (hL : L.nd = nd ∧ L.N = N) {F : Nat → UInt8} {fat mfat : Nat → Nat} {W : Nat → UInt8} (hW : Wrote L F fat mfat W) (hb : L.bytes ≤ 131072) (ob : Nat) (hB : Bts w ob L.bytes F)
    (hp : ∀ i, 65 ≤ i → i ≤ 90 → w.cell? ⟨2, i, none⟩ = some (.int .u8 160)) (h2w : 2 < w.heap.size) :
    Calls Tryd.prog 11 #[.slice (some ⟨ob, 0, none⟩) L.bytes L.bytes] w fun e w' => Fr [] w w' ∧ ∃ v, e = .returned (.tuple #[v, .int .i64 0]) ∧ EntsAre w' w.heap.size v N (fun i => t.order.getD i 0) nd (fun i => (t.pths (fun k => (nd k).name) []).getD i []) := by
  obtain ⟨hLO, hFO⟩ := h.file hL hW hb
  have hlen := h.tree.len
  have hlt : ∀ i, i < N → t.order.getD i 0 < N := fun i hi => by
    refine h.tree.lt _ ?_
    rw [List.getD_eq_getElem?_getD, List.getElem?_eq_getElem (by omega)]
    simp
  refine (entries_ok ob 0 L.bytes L.bytes L.sz (L.cnt 0) L.mn (L.cnt 2) F (L.chn 0) (L.chn 1) (L.chn 2) L.EP t.toTr w (fun i hi => by rw [Nat.zero_add]; exact (Blk.cell hB i).trans (tab_get _ _ _ hi)) hFO (by omega) hp h2w).mono ?_
  rintro e w' ⟨hf, v, pth, rfl, ho, ht⟩
  rw [NT.toTr_order, hlen] at ho ht
  refine ⟨hf, v, rfl, EntsAre.of (pth := pth) h.n1 ?_ ?_⟩
  · have e1 : entRows N (fun i => t.order.getD i 0) L.EP pth (entB F L.sz (L.chn 0)) = eRows N (fun i => t.order.getD i 0) nd pth := by
      unfold entRows eRows
      rw [List.flatMap_def, List.flatMap_def]
      congr 1
      apply List.map_congr_left
      intro i hi
      rw [ent_eq hW hLO hb _ (by rw [hL.2]; exact hlt i (by simpa using hi)), hL.1]
    rw [← e1]
    exact ho
  · intro i hi
    have h1 := ht i hi
    have h2 : ∀ q, ((t.toTr.paths (fun e => (L.EP e).name) []).map Prod.snd).getD i q = ((t.pths (fun k => (nd k).name) [])).getD i q := by
      intro q
      rw [NT.pths_snd]
      congr 1
      refine NT.pths_congr t _ (fun e he => ?_)
      unfold Lay.EP
      rw [if_pos (by rw [hL.2]; exact h.tree.lt e he), hL.1]
    have h3 := h2 []
    rw [List.getD_eq_getElem?_getD, List.getElem?_map] at h3
    rw [List.getD_eq_getElem?_getD] at h1
    cases hq : (t.toTr.paths (fun e => (L.EP e).name) [])[i]? with
    | none =>
      rw [hq] at h1 h3
      simp only [Option.getD_none, Option.map_none] at h1 h3
      rw [← h3]
      exact h1
    | some y =>
      rw [hq] at h1 h3
      simp only [Option.getD_some, Option.map_some] at h1 h3
      rw [← h3]
      exact h1
end Go.Proofs.YtokpomdfgbbhlaaDoor
