/- FnMixed: a stream is read, sought and written by steps, what is told is what stands there then, the file behind all is that of the stream with these bytes (part 9 of 18). No condition but the statement's own. -/
import Derived.Laws.ResultCell
import Derived.Laws.Rows
import Derived.Test.YtokpomdfgbbhlaaDoorMxh
set_option linter.all false
set_option linter.unusedVariables false
set_option linter.unusedSimpArgs false
set_option linter.unnecessarySimpa false
/- The contracts of Reader.ID, Created, Modified, and of Root over a sound file. -/
namespace Go.Proofs.YtokpomdfgbbhlaaDoor
open Go Go.RowKit Go.Maps

section
variable {w : World} {base rb sb : Nat} {F : Nat → UInt8} {ss m : Nat} {cs : Nat → Nat} {P : Nat → EntP} {t : Tr} {mn mm : Nat} {mf ms : Nat → Nat}
    {hb fb gb dg dcap ub ul uc : Nat} {fk dk : Nat → Nat} {pv : Nat → Value} {mfv msv : Value}

theorem rcreated_any (h : RdOK w base rb sb F ss m cs P t mn mm mf ms hb fb gb dg dcap ub ul uc fk dk pv mfv msv) (hl : 1 ≤ t.order.length) (he : t.order.getD 0 0 < m * (ss / 128)) :
    Calls Tryd.prog 35 #[.pointer (some ⟨rb, 0, none⟩)] w fun e w' => e = .returned (.int .u64 (fld (entB F ss cs (t.order.getD 0 0)) 100 8)) ∧ w = w' := by
  have r4 : w.cell? ⟨rb, 4, none⟩ = some (.slice (some ⟨gb, 0, none⟩) t.order.length (m * (ss / 128))) := h.rd.cell 4
  have g0 := h.files 0 (by omega)
  have hcon := Lib.hid (created_any _ _ _ _ _ _ _ _ _ _ _ w (h.file _ he) (h.ent _ he))
  generalize t.order.getD 0 0 = e0 at *
  generalize t.order.length = tl at *
  go_enter Tryd.func35, Tryd.ntmps35
  go_wp2_with fail
  refine hcon.out.mono ?_
  rintro e w1 ⟨rfl, rfl⟩
  go_wp2_with fail
  go_ret
  exact ⟨rfl, rfl⟩
theorem rmodified_any (h : RdOK w base rb sb F ss m cs P t mn mm mf ms hb fb gb dg dcap ub ul uc fk dk pv mfv msv) (hl : 1 ≤ t.order.length) (he : t.order.getD 0 0 < m * (ss / 128)) :
    Calls Tryd.prog 36 #[.pointer (some ⟨rb, 0, none⟩)] w fun e w' => e = .returned (.int .u64 (fld (entB F ss cs (t.order.getD 0 0)) 108 8)) ∧ w = w' := by
  have r4 : w.cell? ⟨rb, 4, none⟩ = some (.slice (some ⟨gb, 0, none⟩) t.order.length (m * (ss / 128))) := h.rd.cell 4
  have g0 := h.files 0 (by omega)
  have hcon := Lib.hid (modified_any _ _ _ _ _ _ _ _ _ _ _ w (h.file _ he) (h.ent _ he))
  generalize t.order.getD 0 0 = e0 at *
  generalize t.order.length = tl at *
  go_enter Tryd.func36, Tryd.ntmps36
  go_wp2_with fail
  refine hcon.out.mono ?_
  rintro e w1 ⟨rfl, rfl⟩
  go_wp2_with fail
  go_ret
  exact ⟨rfl, rfl⟩

set_option maxRecDepth 100000 in
set_option maxHeartbeats 1000000 in
theorem rid_any (h : RdOK w base rb sb F ss m cs P t mn mm mf ms hb fb gb dg dcap ub ul uc fk dk pv mfv msv) (hl : 1 ≤ t.order.length) (he : t.order.getD 0 0 < m * (ss / 128)) :
    Calls Tryd.prog 34 #[.pointer (some ⟨rb, 0, none⟩)] w fun e w' => e = .returned (.agg (guidA (fun j => entB F ss cs (t.order.getD 0 0) (80 + j)))) ∧ Fr [] w w' := by
  have r4 : w.cell? ⟨rb, 4, none⟩ = some (.slice (some ⟨gb, 0, none⟩) t.order.length (m * (ss / 128))) := h.rd.cell 4
  have g0 := h.files 0 (by omega)
  have hfl := h.file _ he
  have hen := h.ent _ he
  have lr := h.rd.lt
  have lg := World.block_lt_of_cell? w _ g0
  dsimp only at lg
  generalize t.order.getD 0 0 = e0 at *
  generalize t.order.length = tl at *
  generalize entB F ss cs e0 = G at *
  go_enter Tryd.func34, Tryd.ntmps34
  go_wp2_with fail
  refine (id_any _ _ _ _ _ _ _ _ _ _ G _ (hfl.alloc _) (hen.alloc _)).mono ?_
  rintro e w1 ⟨rfl, hf1⟩
  have hr1 := (Blk.new' w 97 (List.replicate 16 (Value.int .u8 0)).toArray).fr0 hf1
  go_wp2_with (with_reducible refine wpList_store_blk rfl 97 (.tmp 2) (.tmp 9) rfl w.heap.size 0 (guidA (fun j => G (80 + j))) rfl rfl 97 _ hr1 ?_ ?_ (guidA_one _) ?_)
  · simp [guidA_size]
  · rw [guidA_size]; kernel_rfl
  · intro w2 hf2 hb3
    have hfr : Fr [] w w2 := (((Fr.refl [] w).alloc _).trans0 hf1).trans hf2 (by simp)
    have e3 := splice_whole (List.replicate 16 (Value.int .u8 0)) (guidA (fun j => G (80 + j))).toList (by simp [guidA])
    have hb4 : Blk w2 w.heap.size 97 (guidA (fun j => G (80 + j))).toList := by rw [← e3]; exact hb3
    have hld : (loadVar 97 ⟨w.heap.size, 0, none⟩).run Tryd.prog w2 = .ok (.agg (guidA (fun j => G (80 + j)))) w2 := by
      have := run_loadVar_mid (P := Tryd.prog) w2 w.heap.size 0 97 (guidA (fun j => G (80 + j))).toList _ (fun j v hj => by rw [hb4.cell]; simpa using hj) Tryd.underlying97 rfl (by rw [Array.length_toList, guidA_size]; kernel_rfl)
      simpa using this
    clear hb3 hb4 e3 hf2
    go_wp2_with fail
    refine bodyPost_ret (v := .agg (guidA (fun j => G (80 + j)))) ?_ rfl ⟨rfl, hfr⟩
    simp [results, Tryd.results34, asAddr, hld]

theorem RdOK.fr0 {w' : World} (h : RdOK w base rb sb F ss m cs P t mn mm mf ms hb fb gb dg dcap ub ul uc fk dk pv mfv msv) (f : Fr [] w w') :
    RdOK w' base rb sb F ss m cs P t mn mm mf ms hb fb gb dg dcap ub ul uc fk dk pv mfv msv where
  rb_ := h.rb_
  rd := h.rd.fr0 f
  hd := h.hd.fr0 f
  hdb := h.hdb
  fd := h.fd.fr0 f
  files := fun i hi => f.cell0 (h.files i hi)
  file := fun e he => (h.file e he).fr0 f
  fileb := h.fileb
  filei := h.filei
  ent := fun e he => (h.ent e he).fr0 f
  path := fun q hq => (h.path q hq).fr f (by simp)
  mini := by
    rcases h.mini with h | ⟨a, b, k, h1, h2, h3, h4, h5, h6, h7⟩
    · exact .inl h
    · exact .inr ⟨a, b, k, h1, h2, h3, h4, h5, fun i hi => f.cell0 (h6 i hi), fun i hi => f.cell0 (h7 i hi)⟩
end
end Go.Proofs.YtokpomdfgbbhlaaDoor

/- The contract of Root over a sound file. -/
namespace Go.Proofs.YtokpomdfgbbhlaaDoor
open Go Go.RowKit Go.Maps

set_option maxRecDepth 100000 in
set_option maxHeartbeats 1000000 in
theorem root_ok (ab ao n ncap ss m mn mm : Nat) (F : Nat → UInt8) (cs mf ms : Nat → Nat) (P : Nat → EntP) (t : Tr) (w : World) (hB : ∀ i, i < n → w.cell? ⟨ab, ao + i, none⟩ = some (U8 (F i)))
    (hF : FileOK F n ss m cs P t mn mm mf ms) (hn : n ≤ 131072)
    (hp : ∀ i, 65 ≤ i → i ≤ 90 → w.cell? ⟨2, i, none⟩ = some (.int .u8 160)) (h2w : 2 < w.heap.size) (hl : 1 ≤ t.order.length) (h0 : t.order.getD 0 0 = 0) (hm : 0 < m * (ss / 128)) :
    Calls Tryd.prog 14 #[.slice (some ⟨ab, ao, none⟩) n ncap] w fun e w' => Fr [] w w' ∧
      e = .returned (.tuple #[.agg (guidA (fun j => entB F ss cs 0 (80 + j))), .int .u64 (fld (entB F ss cs 0) 100 8), .int .u64 (fld (entB F ss cs 0) 108 8), .int .i64 0]) := by
  go_enter Tryd.func14, Tryd.ntmps14
  go_wp2_with fail
  refine (opened_ok ab ao n ncap ss m mn mm F cs mf ms P t _ (fun i hi => ((Fr.refl [] w).alloc _).cell0 (hB i hi)) hF hn (fun i a b => ((Fr.refl [] w).alloc _).cell0 (hp i a b)) (by simp; omega)).mono ?_
  rintro e w1 ⟨base, sb, bb, cap, rb, hb, fb, gb, dg, dcap, ub, ul, uc, fk, dk, pv, mfv, msv, rfl, hf1, _, _, _, _, _, _, hR⟩
  have hr1 := (Blk.new' w 36 (List.replicate 16 (Value.int .u8 0)).toArray).fr0 hf1
  go_wp2_with fail
  have k1 := rid_any hR hl (by rw [h0]; exact hm)
  rw [h0] at k1
  generalize hG : entB F ss cs 0 = G at *
  refine k1.mono ?_
  rintro e w2 ⟨rfl, hf2⟩
  go_wp2_with fail
  have k2 := rcreated_any (hR.fr0 hf2) hl (by rw [h0]; exact hm)
  rw [h0, hG] at k2
  refine k2.mono ?_
  rintro e w3 ⟨rfl, rfl⟩
  go_wp2_with fail
  have k3 := rmodified_any (hR.fr0 hf2) hl (by rw [h0]; exact hm)
  rw [h0, hG] at k3
  refine k3.mono ?_
  rintro e w3 ⟨rfl, rfl⟩
  have hr2 := hr1.fr0 hf2
  clear k1 k2 k3
  go_wp2_with (refine wpList_store_blk rfl 36 (.tmp 2) (.tmp 20) rfl w.heap.size 0 (guidA (fun j => G (80 + j))) rfl rfl 36 _ hr2 ?_ ?_ (guidA_one _) ?_)
  · simp [guidA_size]
  · rw [guidA_size]; kernel_rfl
  · intro w4 hf4 hb3
    have hfr : Fr [] w w4 := ((((Fr.refl [] w).alloc _).trans0 hf1).trans0 hf2).trans hf4 (by simp)
    have e3 := splice_whole (List.replicate 16 (Value.int .u8 0)) (guidA (fun j => G (80 + j))).toList (by simp [guidA])
    have hb4 : Blk w4 w.heap.size 36 (guidA (fun j => G (80 + j))).toList := by rw [← e3]; exact hb3
    have hld : (loadVar 36 ⟨w.heap.size, 0, none⟩).run Tryd.prog w4 = .ok (.agg (guidA (fun j => G (80 + j)))) w4 := by
      have := run_loadVar_mid (P := Tryd.prog) w4 w.heap.size 0 36 (guidA (fun j => G (80 + j))).toList _ (fun j v hj => by rw [hb4.cell]; simpa using hj) Tryd.underlying36 rfl (by rw [Array.length_toList, guidA_size]; kernel_rfl)
      simpa using this
    clear hb3 hb4 e3 hf4
    go_wp2_with fail
    refine bodyPost_ret (v := .tuple #[.agg (guidA (fun j => G (80 + j))), .int .u64 (fld G 100 8), .int .u64 (fld G 108 8), .int .i64 0]) ?_ rfl ⟨hfr, by rw [hG]⟩
    simp [results, Tryd.results14, asAddr, hld]
end Go.Proofs.YtokpomdfgbbhlaaDoor

/- append onto a row of the call's own, as a step of a region that draws its order. -/
namespace Go.Proofs.YtokpomdfgbbhlaaDoor
open Go Go.RowKit Go.Maps

theorem step_append_own {P : Program} {ops : Array Oper} {o : Oper} {a : Act} {w : World} {K : Act → World → Prop} {Q : Exit → Act → World → Prop} {E : Prop} (hgd : o.guard = none) (s x : Operand) (t : TypeId)
    (ho : o.op = .call { callee := .builtin .append, args := #[s, x], argTypes := #[t, t] })
    (base : Nat) (e : TypeId) (i : TypeInfo) (z : Value) (size bytes : Nat) (ht : P.underlying t = some (.slice e)) (hi : P.info? e = some i) (hz : i.zero = some z)
    (hsize : i.size = size) (hby : i.bytes = bytes) (hzs : z.cells.size = size) (hsz : 0 < size)
    (v : Value) (n : Nat) (xs : List Value) (hs : a.eval s = v) (hown : w.ownsRow base e size v n xs)
    (ad : Addr) (m c : Nat) (news : List Value) (hx : a.eval x = .slice (some ad) m c) (hl : news.length = m * size) (hnews : ∀ j u, news[j]? = some u → w.cell? (ad.add j) = some u) (h1 : ∀ u ∈ news, u.oneCell' = true)
    (h63 : n + m ≤ maxLen) (hbytes : (n + m) * bytes ≤ 140737488355328) (hbase : base ≤ w.heap.size)
    (h : ∀ v' w', w'.ownsRow base e size v' (n + m) (xs ++ news) → w.grownBy w' v.ownBlock → K (a.put o.dst v') w') :
    if Region.wanted o (yielded ops a.tmps) = true then Oper.wp P o a w K Q else E := by
  have hw : Region.wanted o (yielded ops a.tmps) = true := by simp [Region.wanted, hgd]
  rw [if_pos hw]
  obtain ⟨v', w', hr, h2, h3, h4⟩ := run_append_own (P := P) w base t o.type e i z size bytes ht hi hz hsize hby hzs hsz v n xs hown ad m c news hl hnews h1 h63 hbytes hbase
  unfold Oper.wp
  simp only [execOp, ho, resolve, invoke, builtin, Sem.run_bind, Sem.run_pure, Result.andThen_ok, List.map_toArray, List.map_cons, List.map_nil, hs, hx, hr]
  exact h v' w' h2 h3
end Go.Proofs.YtokpomdfgbbhlaaDoor

/- The contract of Entries over a sound file. -/
namespace Go.Proofs.YtokpomdfgbbhlaaDoor
open Go Go.RowKit Go.Maps

theorem info40 : (Tryd.prog.info? 40).map (fun i => (i.zero.map (·.cells.size), i.size, i.bytes)) = some (some 27, 27, 104) := by kernel_rfl
theorem info40_parts : ∃ i z, Tryd.prog.info? 40 = some i ∧ i.zero = some z ∧ i.size = 27 ∧ i.bytes = 104 ∧ z.cells.size = 27 := by
  obtain ⟨i, hi, hzz⟩ := Option.map_eq_some_iff.1 info40
  simp only [Prod.mk.injEq] at hzz
  obtain ⟨z, h1, h2⟩ := Option.map_eq_some_iff.1 hzz.1
  exact ⟨i, z, hi, h1, hzz.2.1, hzz.2.2, h2⟩

/-- The cells of an Entry. -/
def entCells (p : EntP) (path : Value) (G : Nat → UInt8) : List Value :=
  [.string p.name, path, .int .i64 ((G 66).toNat : Nat), .int .i64 p.size, .int .i64 p.init] ++ (guidA (fun j => G (80 + j))).toList ++ (stateA (fun j => G (96 + j))).toList ++ [.int .u64 (fld G 100 8), .int .u64 (fld G 108 8)]
theorem entCells_length (p : EntP) (path : Value) (G : Nat → UInt8) : (entCells p path G).length = 27 := by simp [entCells, guidA, stateA]

/-- A list of texts, in a slice that may be nil. -/
def TextsIs (w : World) (base : Nat) (v : Value) (p : List ByteArray) : Prop := w.ownsRow base 9 1 v p.length (p.map Value.string)

theorem own_fr0 {w w' : World} {base : Nat} {e : TypeId} {size n : Nat} {v : Value} {xs : List Value} (h : w.ownsRow base e size v n xs) (f : Fr [] w w') : w'.ownsRow base e size v n xs := own_fr h f (by simp)
theorem news_new (w : World) (cs : Array Value) (e : TypeId) {l : List Value} (h : cs.toList = l) : ∀ j u, l[j]? = some u → (w.alloc (.cells cs e)).cell? ((⟨w.heap.size, 0, none⟩ : Addr).add j) = some u := by
  intro j u hj
  subst h
  rw [add_zero']
  exact ((Blk.new' w e cs).cell j).trans hj
theorem own_mono {w : World} {base base' : Nat} {e : TypeId} {size n : Nat} {v : Value} {xs : List Value} (h : w.ownsRow base e size v n xs) (hb : base' ≤ base) : w.ownsRow base' e size v n xs := by
  refine ⟨h.1, ?_⟩
  rcases h.2 with h0 | ⟨g, cap, cur, e1, h1, h2⟩
  · exact .inl h0
  · exact .inr ⟨g, cap, cur, e1, Nat.le_trans hb h1, h2⟩
theorem ent_last {wr w3 w4 : World} {o : Obj} {out pv : Value} {base b9 k n f0 : Nat} {rows xs l : List Value} (hfc : Fr [] wr w3) (hfo : Fr out.ownBlock.toList (w3.alloc o) w4) (hown : wr.ownsRow base 40 27 out k rows) (hfl : Blk wr f0 95 l)
    (ht : w3.ownsRow b9 9 1 pv n xs) : Blk w4 f0 95 l ∧ w4.ownsRow b9 9 1 pv n xs ∧ Fr out.ownBlock.toList wr w4 := by
  have h1 := own_fr0 hown (hfc.alloc o)
  have h2 := hfl.fr0 (hfc.alloc o)
  have h3 := own_fr0 ht ((Fr.refl [] w3).alloc o)
  exact ⟨h2.fr hfo (own_ne h1 h2 (by decide)), own_fr h3 hfo (own_sep h3 h1 (by decide)), ((hfc.alloc o).mono (by simp)).trans hfo (fun x hx => .inl hx)⟩
theorem entCells_one (p : EntP) (a : Option Addr) (n c : Nat) (G : Nat → UInt8) : ∀ u ∈ entCells p (.slice a n c) G, u.oneCell' = true := by
  intro u hu
  simp only [entCells, guidA, stateA, List.mem_append, List.mem_cons, List.not_mem_nil, or_false, tab, List.toList_toArray, List.mem_map] at hu
  rcases hu with ((h | ⟨i, _, rfl⟩) | ⟨i, _, rfl⟩) | h
  · rcases h with rfl | rfl | rfl | rfl | rfl <;> rfl
  · rfl
  · rfl
  · rcases h with rfl | rfl <;> rfl

/-- The entries' cells, one behind the other. -/
def entRows (k : Nat) (o : Nat → Nat) (P : Nat → EntP) (pth : Nat → Value) (B : Nat → Nat → UInt8) : List Value := (List.range k).flatMap (fun i => entCells (P (o i)) (pth i) (B (o i)))
theorem entRows_succ (k : Nat) (o : Nat → Nat) (P : Nat → EntP) (pth : Nat → Value) (B : Nat → Nat → UInt8) : entRows (k + 1) o P pth B = entRows k o P pth B ++ entCells (P (o k)) (pth k) (B (o k)) := by
  simp [entRows, List.range_succ]
theorem entRows_congr {k : Nat} {o : Nat → Nat} {P : Nat → EntP} {pth pth' : Nat → Value} {B : Nat → Nat → UInt8} (h : ∀ i, i < k → pth i = pth' i) : entRows k o P pth B = entRows k o P pth' B := by
  unfold entRows
  induction k with
  | zero => rfl
  | succ k ih =>
    rw [List.range_succ, List.flatMap_append, List.flatMap_append, ih (fun i hi => h i (by omega))]
    simp [h k (by omega)]


/-- sixteen bytes, written out. -/
theorem guidA_lit (f : Nat → UInt8) : guidA f = #[U8 (f 0), U8 (f 1), U8 (f 2), U8 (f 3), U8 (f 4), U8 (f 5), U8 (f 6), U8 (f 7), U8 (f 8), U8 (f 9), U8 (f 10), U8 (f 11), U8 (f 12), U8 (f 13), U8 (f 14), U8 (f 15)] := rfl
theorem stateA_lit (f : Nat → UInt8) : stateA f = #[U8 (f 0), U8 (f 1), U8 (f 2), U8 (f 3)] := rfl

theorem Tr.paths_fst (nm : Nat → ByteArray) : ∀ (t : Tr) (p : List ByteArray), (t.paths nm p).map Prod.fst = t.order
  | .nil, _ => rfl
  | .node e l c r, p => by simp [Tr.paths, Tr.order, Tr.paths_fst nm l, Tr.paths_fst nm c, Tr.paths_fst nm r]
theorem Tr.paths_at (nm : Nat → ByteArray) (t : Tr) (p : List ByteArray) (k : Nat) (hk : k < t.order.length) :
    (t.order.getD k 0, ((t.paths nm p).getD k (0, [])).2) ∈ t.paths nm p := by
  have h := Tr.paths_fst nm t p
  have hl : k < (t.paths nm p).length := by
    have := congrArg List.length h
    simp at this; omega
  have h2 : t.order.getD k 0 = ((t.paths nm p)[k]).1 := by
    rw [← h, List.getD_eq_getElem?_getD, List.getElem?_map, List.getElem?_eq_getElem hl]
    rfl
  rw [h2, List.getD_eq_getElem?_getD, List.getElem?_eq_getElem hl]
  exact List.getElem_mem hl

theorem Tr.paths_len (nm : Nat → ByteArray) : ∀ (t : Tr) (p : List ByteArray) (q : Nat × List ByteArray), q ∈ t.paths nm p → q.2.length ≤ p.length + t.order.length
  | .nil, p, q, h => by simp [Tr.paths] at h
  | .node e l c r, p, q, h => by
    simp only [Tr.paths, List.mem_append, List.mem_cons] at h
    simp only [Tr.order, List.length_append, List.length_cons]
    rcases h with h | rfl | h | h
    · have := Tr.paths_len nm l p q h; omega
    · simp
    · have h1 := Tr.paths_len nm c _ q h
      split at h1
      · omega
      · simp at h1; omega
    · have := Tr.paths_len nm r p q h; omega

set_option maxRecDepth 100000 in
set_option maxHeartbeats 4000000 in
theorem entries_ok (ab ao n ncap ss m mn mm : Nat) (F : Nat → UInt8) (cs mf ms : Nat → Nat) (P : Nat → EntP) (t : Tr) (w : World) (hB : ∀ i, i < n → w.cell? ⟨ab, ao + i, none⟩ = some (U8 (F i)))
    (hF : FileOK F n ss m cs P t mn mm mf ms) (hn : n ≤ 131072)
    (hp : ∀ i, 65 ≤ i → i ≤ 90 → w.cell? ⟨2, i, none⟩ = some (.int .u8 160)) (h2w : 2 < w.heap.size) :
    Calls Tryd.prog 11 #[.slice (some ⟨ab, ao, none⟩) n ncap] w fun e w' => Fr [] w w' ∧ ∃ (v : Value) (pth : Nat → Value), e = .returned (.tuple #[v, .int .i64 0]) ∧
      w'.ownsRow w.heap.size 40 27 v t.order.length (entRows t.order.length (fun i => t.order.getD i 0) P pth (entB F ss cs)) ∧
      ∀ i, i < t.order.length → TextsIs w' w.heap.size (pth i) (((t.paths (fun e => (P e).name) []).getD i (0, [])).2) := by
  go_enter Tryd.func11, Tryd.ntmps11
  go_wp2_with fail
  refine (opened_ok ab ao n ncap ss m mn mm F cs mf ms P t _ hB hF hn hp h2w).mono ?_
  rintro e w1 ⟨base, sb, bb, cap, rb, hb, fb, gb, dg, dcap, ub, ul, uc, fk, dk, pv, mfv, msv, rfl, hf1, _, _, _, _, _, _, hR⟩
  have r4 : w1.cell? ⟨rb, 4, none⟩ = some (.slice (some ⟨gb, 0, none⟩) t.order.length (m * (ss / 128))) := hR.rd.cell 4
  have hord : ∀ i, i < t.order.length → t.order.getD i 0 < m * (ss / 128) := by
    intro i hi
    refine hF.t1.lt _ ?_
    rw [List.getD_eq_getElem?_getD, List.getElem?_eq_getElem hi]
    simp
  have hfs := hR.files
  have HO := Lib.hid hord
  have HFS := Lib.hid hfs
  clear hord hfs
  generalize hlen : t.order.length = tl at *
  obtain ⟨i0, z0, hi, hz0, hz1, hz2, hz3⟩ := info40_parts
  have hown0 : w1.ownsRow w1.heap.size 40 27 (.slice none 0 0) 0 [] := World.ownsRow_nil _ _ _ _
  go_wp2_with fail
  go_loopw [7, 24] (fun s7 s24 wr => ∃ (k : Nat) (pth : Nat → Value), k ≤ tl ∧ s24 = .int .i64 k ∧ Fr [] w1 wr ∧ wr.ownsRow w1.heap.size 40 27 s7 k (entRows k (fun i => t.order.getD i 0) P pth (entB F ss cs)) ∧
    ∀ i, i < k → TextsIs wr w1.heap.size (pth i) (((t.paths (fun e => (P e).name) []).getD i (0, [])).2)) (fun _ s24 _ => tl - (intOf s24).toNat)
  case atStart => exact ⟨0, fun _ => .nilIface, by omega, rfl, Fr.refl _ _, by simpa [entRows] using hown0, fun i hi => by omega⟩
  case round =>
    obtain ⟨k, pth, hk, rfl, hf, hown, htx⟩ := hrel
    by_cases hlt : k < tl
    · have hltI : (k : Int) < tl := by omega
      have hke := HO.out k hlt
      obtain ⟨pb, pcap, hpv, hpb, hpB⟩ := hR.path _ (Tr.paths_at (fun e => (P e).name) t [] k (by rw [hlen]; exact hlt))
      simp only at hpv
      have g0 : wr.cell? ⟨gb, k, none⟩ = some (.pointer (some ⟨fk (t.order.getD k 0), 0, none⟩)) := hf.cell0 (HFS.out k hlt)
      have hfl := (hR.file _ hke).fr0 hf
      have hen := (hR.ent _ hke).fr0 hf
      have hpB2 := hpB.fr0 hf
      rw [hpv] at hfl
      have hppl := Tr.paths_len (fun e => (P e).name) t [] _ (Tr.paths_at (fun e => (P e).name) t [] k (by rw [hlen]; exact hlt))
      rw [hlen] at hppl
      generalize hpp : ((t.paths (fun e => (P e).name) []).getD k (0, [])).2 = pp at *
      generalize he0 : t.order.getD k 0 = e0 at *
      have HPP := Lib.hid hpp
      have HE := Lib.hid he0
      clear hpp he0
      generalize fk e0 = f0 at *
      generalize dk e0 = d0 at *
      have hinit : (P e0).init ≤ 90 := by
        rcases hF.ent e0 hke with ⟨_, _, _, h, _⟩ | ⟨_, _, _, _, _, _, _, h90, _, _, _, _, h, _⟩
        · omega
        · omega
      generalize hG : entB F ss cs e0 = G at *
      generalize hp0 : P e0 = p0 at *
      have HP0 := Lib.hid hp0
      clear hp0
      have HG := Lib.hid hG
      clear hG
      have hidc := Lib.hid (fun w0 (f : Fr [] wr w0) => id_any f0 d0 p0.name p0.init _ p0.size 0 (fld G 116 4) 0 rb G w0 (hfl.fr0 f) (hen.fr0 f))
      have hstc := Lib.hid (fun w0 (f : Fr [] wr w0) => state_any f0 d0 p0.name p0.init _ p0.size 0 (fld G 116 4) 0 rb G w0 (hfl.fr0 f) (hen.fr0 f))
      have htyc := Lib.hid (fun w0 (f : Fr [] wr w0) => type_any f0 d0 p0.name p0.init _ p0.size 0 (fld G 116 4) 0 rb G w0 (hfl.fr0 f) (hen.fr0 f))
      have hcrc := Lib.hid (fun w0 (f : Fr [] wr w0) => created_any f0 d0 p0.name p0.init _ p0.size 0 (fld G 116 4) 0 rb G w0 (hfl.fr0 f) (hen.fr0 f))
      have hmdc := Lib.hid (fun w0 (f : Fr [] wr w0) => modified_any f0 d0 p0.name p0.init _ p0.size 0 (fld G 116 4) 0 rb G w0 (hfl.fr0 f) (hen.fr0 f))
      simp only [guidA_lit, stateA_lit] at hidc hstc
      have q0 : wr.cell? ⟨f0, 0, none⟩ = some (.string p0.name) := hfl.cell 0
      have q1 : wr.cell? ⟨f0, 1, none⟩ = some (.int .u16 p0.init) := hfl.cell 1
      have q2 : wr.cell? ⟨f0, 2, none⟩ = some (.slice (some ⟨pb, 0, none⟩) pp.length pcap) := hfl.cell 2
      have q3 : wr.cell? ⟨f0, 3, none⟩ = some (.int .i64 p0.size) := hfl.cell 3
      obtain ⟨i9, hi9, hz9, hs9, hb9⟩ := info_parts info9
      have htl : pp.length ≤ 100000 := by
        have h1 := hF.t3
        have h2 := hF.m2
        rw [hlen] at h1
        have h3 : ss / 128 ≤ 32 := by rcases hF.hdr.shift with ⟨_, h⟩ | ⟨_, h⟩ <;> omega
        have h4 := Nat.mul_le_mul h2 h3
        simp at hppl
        omega
      have htl2 : tl ≤ 100000 := by
        have h1 := hF.t3
        have h2 := hF.m2
        rw [hlen] at h1
        have h3 : ss / 128 ≤ 32 := by rcases hF.hdr.shift with ⟨_, h⟩ | ⟨_, h⟩ <;> omega
        have h4 := Nat.mul_le_mul h2 h3
        omega
      have hnews : ∀ j u, (pp.map Value.string)[j]? = some u → wr.drew.cell? ((⟨pb, 0, none⟩ : Addr).add j) = some u := by
        intro j u hj
        rw [add_zero']
        exact (hpB2.cell j).trans hj
      have h1one : ∀ u ∈ pp.map Value.string, u.oneCell' = true := by
        intro u hu
        obtain ⟨x, _, rfl⟩ := List.mem_map.1 hu
        rfl
      have hbase : w1.heap.size ≤ wr.drew.heap.size := hf.size
      have HNEWS := Lib.hid hnews
      have HONE := Lib.hid h1one
      have HI9 := Lib.hid (And.intro hi9 (And.intro hz9 (And.intro hs9 hb9)))
      have HI40 := Lib.hid (And.intro hi (And.intro hz0 (And.intro hz1 (And.intro hz2 hz3))))
      have HOWN := Lib.hid hown
      have HTX := Lib.hid htx
      have HFL := Lib.hid hfl
      have hfc : Fr [] wr wr.drew := (Fr.refl _ _).drew
      have hppl2 : (pp.map Value.string).length = pp.length * 1 := by simp
      have HPPL := Lib.hid hppl2
      clear hnews h1one hi9 hz9 hs9 hb9 hown htx hfl hpB2 hpB hppl hppl2 hen hR hown0
      have hwi : IntKind.i64.wrap (p0.init : Int) = (p0.init : Int) := IntWalk.i64_in _ (by omega)
      go_upto_region 8 with (fail)
      go_region_held3 (fun w' => w'.cell? ⟨f0, 0, none⟩ = some (.string p0.name) ∧ w'.cell? ⟨f0, 1, none⟩ = some (.int .u16 p0.init) ∧ w'.cell? ⟨f0, 2, none⟩ = some (.slice (some ⟨pb, 0, none⟩) pp.length pcap) ∧ w'.cell? ⟨f0, 3, none⟩ = some (.int .i64 p0.size))
        (first | exact ⟨hfc.cell0 q0, hfc.cell0 q1, hfc.cell0 q2, hfc.cell0 q3⟩ | exact ⟨(hfc.alloc _).cell0 q0, (hfc.alloc _).cell0 q1, (hfc.alloc _).cell0 q2, (hfc.alloc _).cell0 q3⟩ | exact hkept)
        (first
          | (go_at_call 28; (with_reducible refine (htyc.out _ hfc).mono ?_); rintro e1 w3 ⟨rfl, rfl⟩)
          | (go_at_call 29; (with_reducible refine (hidc.out _ hfc).mono ?_); rintro e1 w3 ⟨rfl, hf3⟩; replace hfc := hfc.trans0 hf3; have HR9 := Lib.hid (own_fr HR9.out hf3 (by simp)); clear hf3)
          | (go_at_call 30; (with_reducible refine (hstc.out _ hfc).mono ?_); rintro e1 w3 ⟨rfl, hf3⟩; replace hfc := hfc.trans0 hf3; have HR9 := Lib.hid (own_fr HR9.out hf3 (by simp)); clear hf3)
          | (go_at_call 31; (with_reducible refine (hcrc.out _ hfc).mono ?_); rintro e1 w3 ⟨rfl, rfl⟩)
          | (go_at_call 32; (with_reducible refine (hmdc.out _ hfc).mono ?_); rintro e1 w3 ⟨rfl, rfl⟩)
          | (refine step_append_own rfl (.const (.slice none 0 0)) (.tmp 36) 35 rfl w1.heap.size 9 i9 (.string ⟨#[]⟩) 1 16 Tryd.underlying35 HI9.out.1 HI9.out.2.1 HI9.out.2.2.1 HI9.out.2.2.2 rfl (by decide) (.slice none 0 0) 0 [] rfl (own_nil _ _ _ _) ⟨pb, 0, none⟩ pp.length pcap (pp.map Value.string) rfl HPPL.out HNEWS.out HONE.out (by unfold maxLen; omega) (by omega) hbase ?_; rintro v9 w3 hr9 hg9; rw [Nat.zero_add, List.nil_append] at hr9; obtain ⟨a9, c9, rfl⟩ := own_slice hr9; have hfc9 : Fr [] wr w3 := hfc.trans0 (Fr.of_grown hg9); clear hfc; have hfc := hfc9; have HR9 := Lib.hid hr9; clear hr9 hg9 hfc9)
          | (refine step_append_own rfl (.tmp 28) (.tmp 58) 28 rfl w1.heap.size 40 i0 z0 27 104 Tryd.underlying28 HI40.out.1 HI40.out.2.1 HI40.out.2.2.1 HI40.out.2.2.2.1 HI40.out.2.2.2.2 (by decide) u7 k _ rfl (own_fr0 HOWN.out (hfc.alloc _)) ⟨_, 0, none⟩ 1 1 (entCells p0 (.slice a9 pp.length c9) G) rfl ?_ (news_new _ _ _ rfl) (entCells_one _ _ _ _ _) ?_ ?_ (Nat.le_trans hbase (hfc.alloc _).size) ?_
             · exact entCells_length _ _ _
             · unfold maxLen; omega
             · omega
             rintro v31 w4 hr31 hg31
             have hel := ent_last hfc (Fr.of_grown hg31) HOWN.out HFL.out HR9.out
             have hk := hel.1
             have hkept : w4.cell? ⟨f0, 0, none⟩ = some (.string p0.name) ∧ w4.cell? ⟨f0, 1, none⟩ = some (.int .u16 p0.init) ∧ w4.cell? ⟨f0, 2, none⟩ = some (.slice (some ⟨pb, 0, none⟩) pp.length pcap) ∧ w4.cell? ⟨f0, 3, none⟩ = some (.int .i64 p0.size) := ⟨hk.cell 0, hk.cell 1, hk.cell 2, hk.cell 3⟩
             have HFIN := Lib.hid (And.intro hel.2.2 (And.intro hr31 hel.2.1))
             clear hel hk hr31 hg31 HR9))
      all_goals
        clear hwi
        go_wp2_with fail
        go_roundw
        case rel =>
          obtain ⟨hFW, hr31, hT⟩ := HFIN.out
          refine ⟨k + 1, fun i => if i = k then .slice a9 pp.length c9 else pth i, by omega, by go_num, ?_, ?_, ?_⟩
          · exact hf.own HOWN.out (Nat.le_refl _) hFW
          · rw [entRows_succ]
            simp only [if_pos]
            rw [HE.out, HP0.out, HG.out, entRows_congr (pth' := pth) (fun i hi => if_neg (by omega))]
            exact hr31
          · intro i hi
            by_cases hik : i = k
            · subst hik
              simp only [if_pos]
              rw [HPP.out]
              exact hT
            · simp only [if_neg hik]
              have := HTX.out i (by omega)
              exact own_fr this hFW (own_sep this HOWN.out (by decide))
        case measure => simp [intOf]; omega
    · obtain rfl : k = tl := by omega
      have hrow : wr.ownsRow w.heap.size 40 27 u7 k (entRows k (fun i => t.order.getD i 0) P pth (entB F ss cs)) := own_mono hown hf1.size
      have htx2 : ∀ i, i < k → TextsIs wr w.heap.size (pth i) (((t.paths (fun e => (P e).name) []).getD i (0, [])).2) := fun i hi => own_mono (htx i hi) hf1.size
      have hfw := hf1.trans0 hf
      have H := Lib.hid (And.intro hfw (And.intro hrow htx2))
      clear hrow htx2 hfw hown htx hown0
      go_wp2_with fail
      go_ret2
      exact ⟨H.out.1, u7, pth, rfl, by rw [hlen]; exact H.out.2.1, by rw [hlen]; exact H.out.2.2⟩
end Go.Proofs.YtokpomdfgbbhlaaDoor

/- What Walk yields; the steps of the region that lays a reading. -/
namespace Go.Proofs.YtokpomdfgbbhlaaDoor
open Go Go.RowKit Go.Maps

/-- The place up to which the first j readings read. -/
def rdTo (us : Nat → Nat) (len j : Nat) : Nat := min len (sumN us j)
theorem rdTo_zero (us : Nat → Nat) (len : Nat) : rdTo us len 0 = 0 := by simp [rdTo, sumN]
theorem rdTo_le (us : Nat → Nat) (len j : Nat) : rdTo us len j ≤ len := Nat.min_le_left _ _
theorem rdTo_succ (us : Nat → Nat) (len j : Nat) : rdTo us len (j + 1) = rdTo us len j + cntAt len (rdTo us len j) (us j) := by
  unfold rdTo cntAt
  rw [sumN]
  omega

/-- The cells of what the readings told. -/
def tellRow (dv : Nat → Value) (us : Nat → Nat) (len n : Nat) : List Value :=
  (List.range n).flatMap (fun j => [dv j, I64 (cntAt len (rdTo us len j) (us j)), I64 (if cntAt len (rdTo us len j) (us j) = us j then 0 else 6)])
theorem tellRow_succ (dv : Nat → Value) (us : Nat → Nat) (len n : Nat) : tellRow dv us len (n + 1) = tellRow dv us len n ++ [dv n, I64 (cntAt len (rdTo us len n) (us n)), I64 (if cntAt len (rdTo us len n) (us n) = us n then 0 else 6)] := by
  simp [tellRow, List.range_succ]
theorem tellRow_congr {dv dv' : Nat → Value} (us : Nat → Nat) (len n : Nat) (h : ∀ j, j < n → dv j = dv' j) : tellRow dv us len n = tellRow dv' us len n := by
  induction n with
  | zero => rfl
  | succ n ih => rw [tellRow_succ, tellRow_succ, ih (fun j hj => h j (by omega)), h n (by omega)]

/-- What the readings of an entry told, in memory. -/
def ReadsIs (w : World) (base : Nat) (rv : Value) (us : Nat → Nat) (len : Nat) (dat : Nat → UInt8) (n : Nat) : Prop :=
  ∃ dv : Nat → Value, w.ownsRow base 55 3 rv n (tellRow dv us len n) ∧ ∀ j, j < n → w.ownsRow base 5 1 (dv j) (cntAt len (rdTo us len j) (us j)) (tab (cntAt len (rdTo us len j) (us j)) (fun x => U8 (dat (rdTo us len j + x))))

theorem ReadsIs.mono {w : World} {base base' : Nat} {rv : Value} {us : Nat → Nat} {len : Nat} {dat : Nat → UInt8} {n : Nat} (h : ReadsIs w base rv us len dat n) (hb : base' ≤ base) : ReadsIs w base' rv us len dat n := by
  obtain ⟨dv, h1, h2⟩ := h
  exact ⟨dv, own_mono h1 hb, fun j hj => own_mono (h2 j hj) hb⟩

/-- Rows of bytes and of tellings stay where no block of theirs turns: neither a File, nor a Reader, nor a Walked, nor a new block. -/
theorem ReadsIs.fr {w w' : World} {base : Nat} {rv : Value} {us : Nat → Nat} {len : Nat} {dat : Nat → UInt8} {n : Nat} {ms : List Nat} (h : ReadsIs w base rv us len dat n) (f : Fr ms w w')
    (hm : ∀ x ∈ ms, x < base ∨ w.heap.size ≤ x ∨ ∃ T l, Blk w x T l ∧ T ≠ 55 ∧ T ≠ 5) : ReadsIs w' base rv us len dat n := by
  have key : ∀ {e size m : Nat} {v : Value} {xs : List Value}, w.ownsRow base e size v m xs → (e = 55 ∨ e = 5) → ∀ k, v.ownBlock = some k → k ∉ ms := by
    intro e size m v xs ho he k hk hmem
    rcases hm k hmem with h1 | h1 | ⟨T, l, hT, h55, h5⟩
    · have := (ho.lt k hk).1
      omega
    · have := (ho.lt k hk).2
      omega
    · have := own_ne ho hT (by rcases he with rfl | rfl <;> assumption)
      exact this (by rw [hk]; simp)
  obtain ⟨dv, h1, h2⟩ := h
  exact ⟨dv, own_fr h1 f (key h1 (.inl rfl)), fun j hj => own_fr (h2 j hj) f (key (h2 j hj) (.inr rfl))⟩

/-- The cells of what was walked. -/
def walkRow (nm : Nat → ByteArray) (rv : Nat → Value) (n : Nat) : List Value := (List.range n).flatMap (fun k => [.string (nm k), rv k])
theorem walkRow_succ (nm : Nat → ByteArray) (rv : Nat → Value) (n : Nat) : walkRow nm rv (n + 1) = walkRow nm rv n ++ [.string (nm n), rv n] := by
  simp [walkRow, List.range_succ]
theorem walkRow_congr {rv rv' : Nat → Value} (nm : Nat → ByteArray) (n : Nat) (h : ∀ j, j < n → rv j = rv' j) : walkRow nm rv n = walkRow nm rv' n := by
  induction n with
  | zero => rfl
  | succ n ih => rw [walkRow_succ, walkRow_succ, ih (fun j hj => h j (by omega)), h n (by omega)]

/-- What Walk yields, in memory. -/
def WalkIs (w : World) (base : Nat) (v : Value) (n : Nat) (nm : Nat → ByteArray) (len : Nat → Nat) (dat : Nat → Nat → UInt8) (us : Nat → Nat) (nu : Nat) : Prop :=
  ∃ rv : Nat → Value, w.ownsRow base 53 2 v n (walkRow nm rv n) ∧ ∀ k, k < n → ReadsIs w base (rv k) us (len k) (dat k) nu

theorem info55 : (Tryd.prog.info? 55).map (fun i => (i.zero.map (·.cells.size), i.size, i.bytes)) = some (some 3, 3, 40) := by kernel_rfl
theorem info53 : (Tryd.prog.info? 53).map (fun i => (i.zero.map (·.cells.size), i.size, i.bytes)) = some (some 2, 2, 40) := by kernel_rfl
theorem info_parts3 {e n sz by_ : Nat} (h : (Tryd.prog.info? e).map (fun i => (i.zero.map (·.cells.size), i.size, i.bytes)) = some (some n, sz, by_)) : ∃ i z, Tryd.prog.info? e = some i ∧ i.zero = some z ∧ i.size = sz ∧ i.bytes = by_ ∧ z.cells.size = n := by
  cases hi : Tryd.prog.info? e with
  | none => rw [hi] at h; cases h
  | some i =>
    rw [hi] at h
    simp only [Option.map_some, Option.some.injEq, Prod.mk.injEq] at h
    obtain ⟨h1, h2, h3⟩ := h
    cases hz : i.zero with
    | none => rw [hz] at h1; cases h1
    | some z => rw [hz] at h1; simp at h1; exact ⟨i, z, rfl, hz, h2, h3, h1⟩

/-- The code of a reading's error. -/
theorem code_ex (c m : Nat) (ev ex : Value) (a : Addr) (hev : ev = .iface 187 (.pointer (some a))) (h : EofIs c m ev ex) (w : World) : Calls Tryd.prog 38 #[ex] w fun e w' => e = .returned (.int .i64 ((if c = m then 0 else 6 : Nat) : Int)) ∧ Fr [] w w' := by
  unfold EofIs at h
  by_cases hc : c = m
  · rw [if_pos hc] at h ⊢
    rw [h]
    refine (code_nil w).mono ?_
    rintro e w' ⟨rfl, rfl⟩
    exact ⟨rfl, Fr.refl _ _⟩
  · rw [if_neg hc] at h ⊢
    rw [h, hev]
    exact code_eof a w

theorem enter38 (v : Value) (w : World) : Sem.run Tryd.prog (do let d ← Deferred.ofValue (Value.func (Fn.func 38) #[] #[]) #[v]; invoke d.target d.args) w = Result.ok (Next.enter 38 #[v]) w := by kernel_rfl

/-- A call of code, as a step of a region that draws its order. -/
theorem step_code {ops : Array Oper} {o : Oper} {a : Act} {w : World} {K : Act → World → Prop} {Q : Exit → Act → World → Prop} {E : Prop} (hgd : o.guard = none) (x : Operand) (t : TypeId)
    (ho : o.op = .call { callee := .value (.func 38), args := #[x], argTypes := #[t] }) (v : Value) (k : Nat) (hx : a.eval x = v) (hc : Calls Tryd.prog 38 #[v] w fun e w' => e = .returned (.int .i64 (k : Nat)) ∧ Fr [] w w')
    (h : ∀ w', Fr [] w w' → K (a.put o.dst (.int .i64 (k : Nat))) w') : if Region.wanted o (yielded ops a.tmps) = true then Oper.wp Tryd.prog o a w K Q else E := by
  have hw : Region.wanted o (yielded ops a.tmps) = true := by simp [Region.wanted, hgd]
  rw [if_pos hw]
  have hr : (execOp a.eval o).run Tryd.prog w = .ok (.enter 38 #[v]) w := by
    have hf : a.eval (.func 38) = .func (.func 38) #[] #[] := rfl
    simp only [execOp, ho, resolve, List.map_toArray, List.map_cons, List.map_nil, hx, hf]
    exact enter38 v w
  show o.upon Tryd.prog a K Q ((execOp a.eval o).run Tryd.prog w)
  rw [hr, Oper.upon_enter]
  refine hc.mono ?_
  rintro e w' ⟨rfl, hf⟩
  exact h w' hf
end Go.Proofs.YtokpomdfgbbhlaaDoor

/- One step with a File: the state over the steps; what one (impl) does for each kind of step. -/
namespace Go.Proofs.YtokpomdfgbbhlaaDoor
open Go Go.RowKit Go.Maps

/-- What stays over all steps with a File. -/
structure MX where
  R : RB
  mini : Bool
  q : Nat
  K : Nat
  len : Nat
  fb : Nat
  dk : Nat
  ini : Nat
  nm : ByteArray
  pv : Value
  ss : Nat
  buf : Value
  hdr : Value
  file : Value
  dir : Value
  k : Int
  ch : Nat → Nat
  off : Nat → Nat
  ev : Value

/-- Memory between two steps: the file's bytes are F, the stream's are dat, the reading place is i. -/
structure MX.At (X : MX) (F dat : Nat → UInt8) (i : Nat) (w : World) : Prop where
  R : RdS w X.R F
  S : StrR X.R F X.mini X.q X.K X.len X.ch X.off dat
  A : StrAp F X.R.ss X.R.mf X.mini X.q X.K X.len X.ch X.off
  fl : ∃ t r, t * X.q + r = i ∧ r < X.q ∧ FlS w X.fb X.nm X.ini X.pv X.len i (X.ch t) r X.dk X.R.rb
  rb : ∃ wa, (wa = .nilIface ∨ wa = .iface 81 (.pointer (some ⟨X.R.sb, 0, none⟩))) ∧ Blk w X.R.rb 91 (rdCells X.ss X.buf X.hdr X.file X.dir X.k X.R.sb wa)
  bb : ∃ l, Blk w X.R.bb 5 l ∧ X.R.n ≤ l.length
  st : w.cell? ⟨X.dk, 60, none⟩ = some (.int .u32 (X.ch 0 : Nat))
  ev : w.cell? ⟨0, 0, none⟩ = some X.ev
  il : i ≤ X.len
  lt : ∀ y ∈ X.R.bl, y < w.heap.size
  fbl : X.fb ∉ X.R.bl
  df : X.dk ≠ X.fb ∧ X.dk ≠ X.R.rb ∧ X.dk ≠ X.R.bb
  z0 : X.fb ≠ 0 ∧ X.R.rb ≠ 0 ∧ X.R.bb ≠ 0
  bbs : X.R.rb ≠ X.R.bb ∧ X.R.hb ≠ X.R.bb ∧ X.R.fb ≠ X.R.bb ∧ X.R.fb2 ≠ X.R.bb ∧ X.R.sb2 ≠ X.R.bb ∧ X.R.sb ≠ X.R.bb
  l5 : X.len ≤ 100000
  q0 : 0 < X.q

theorem MX.At.step {X : MX} {F dat F' dat' : Nat → UInt8} {i i' : Nat} {w w' : World} {ms : List Nat} (h : X.At F dat i w) (f : Fr ms w w') (hm : ∀ x ∈ ms, x = X.fb ∨ x = X.R.rb ∨ x = X.R.bb ∨ w.heap.size ≤ x)
    (R : RdS w' X.R F') (S : StrR X.R F' X.mini X.q X.K X.len X.ch X.off dat') (A : StrAp F' X.R.ss X.R.mf X.mini X.q X.K X.len X.ch X.off)
    (fl : ∃ t r, t * X.q + r = i' ∧ r < X.q ∧ FlS w' X.fb X.nm X.ini X.pv X.len i' (X.ch t) r X.dk X.R.rb)
    (rb : ∃ wa, (wa = .nilIface ∨ wa = .iface 81 (.pointer (some ⟨X.R.sb, 0, none⟩))) ∧ Blk w' X.R.rb 91 (rdCells X.ss X.buf X.hdr X.file X.dir X.k X.R.sb wa))
    (bb : ∃ l, Blk w' X.R.bb 5 l ∧ X.R.n ≤ l.length) (il : i' ≤ X.len) : X.At F' dat' i' w' := by
  have h1 := World.block_lt_of_cell? _ _ h.st
  have h2 := World.block_lt_of_cell? _ _ h.ev
  dsimp only at h1 h2
  refine ⟨R, S, A, fl, rb, bb, f.cell (fun hx => ?_) h.st, f.cell (fun hx => ?_) h.ev, il, fun y hy => by have := h.lt y hy; have := f.size; omega, h.fbl, h.df, h.z0, h.bbs, h.l5, h.q0⟩
  · rcases hm _ hx with e | e | e | e
    · exact h.df.1 e
    · exact h.df.2.1 e
    · exact h.df.2.2 e
    · exact absurd e (by omega)
  · rcases hm _ hx with e | e | e | e
    · exact h.z0.1 e.symm
    · exact h.z0.2.1 e.symm
    · exact h.z0.2.2 e.symm
    · exact absurd e (by omega)

theorem MX.At.move {X : MX} {F dat : Nat → UInt8} {i i' : Nat} {w w' : World} {ms : List Nat} (h : X.At F dat i w) (f : Fr ms w w') (hm : ∀ x ∈ ms, x = X.fb ∨ w.heap.size ≤ x)
    (fl : ∃ t r, t * X.q + r = i' ∧ r < X.q ∧ FlS w' X.fb X.nm X.ini X.pv X.len i' (X.ch t) r X.dk X.R.rb) (il : i' ≤ X.len) : X.At F dat i' w' := by
  have hno : ∀ x ∈ X.R.bl, x ∉ ms := fun x hx hi => by
    rcases hm x hi with e | e
    · exact h.fbl (e ▸ hx)
    · have := h.lt x hx; omega
  obtain ⟨wa, h1, h2⟩ := h.rb
  obtain ⟨l, h3, h4⟩ := h.bb
  exact h.step f (fun x hx => (hm x hx).elim .inl (fun e => .inr (.inr (.inr e)))) (h.R.fr f hno) h.S h.A fl ⟨wa, h1, h2.fr f (hno _ (by simp [RB.bl]))⟩ ⟨l, h3.fr f (hno _ (by simp [RB.bl])), h4⟩ il

theorem MX.At.frz {X : MX} {F dat : Nat → UInt8} {i : Nat} {w w' : World} {ms : List Nat} (h : X.At F dat i w) (f : Fr ms w w') (hm : ∀ x ∈ ms, w.heap.size ≤ x) : X.At F dat i w' := by
  obtain ⟨t, r, h1, h2, h3⟩ := h.fl
  exact h.move f (fun x hx => .inr (hm x hx)) ⟨t, r, h1, h2, h3.fr f (fun hx => by have := h3.lt; have := hm _ hx; omega)⟩ h.il

theorem MX.At.fr0 {X : MX} {F dat : Nat → UInt8} {i : Nat} {w w' : World} (h : X.At F dat i w) (f : Fr [] w w') : X.At F dat i w' := h.frz f (by simp)

/-- What a step yields: the stream's bytes are dat' then, the place i'; num is told, and cnt bytes x. -/
def OneIs (X : MX) (F dat : Nat → UInt8) (i : Nat) (w : World) (s : Value) (i' : Nat) (dat' : Nat → UInt8) (num cnt : Nat) (x : Nat → UInt8) : Prop :=
  Calls Tryd.prog 40 #[.pointer (some ⟨X.fb, 0, none⟩), s] w fun e w' => ∃ (dv : Value) (F' : Nat → UInt8), e = .returned (.tuple #[.agg #[dv, .int .i64 (num : Nat), .int .i64 0], .bool true]) ∧
    Fr [X.fb, X.R.rb, X.R.bb] w w' ∧ X.At F' dat' i' w' ∧ Turned F F' X.q X.len X.off dat' ∧ w'.ownsRow w.heap.size 5 1 dv cnt (tab cnt (fun y => U8 (x y)))

/-- The blocks that one lays first: its step, its answer, the bytes to read into. -/
theorem one_env {w w1 w2 w3 : World} {sv : Array Value} {n : Nat} (h1 : w.alloc (Obj.cells sv 66) = w1) (h2 : w1.alloc (Obj.cells #[.slice none 0 0, .int .i64 0, .int .i64 0] 55) = w2) (h3 : w2.alloc (Obj.cells (tab n (fun _ => .int .u8 0)).toArray 5) = w3) :
    Fr [] w w3 ∧ Blk w3 w.heap.size 66 sv.toList ∧ Blk w3 w1.heap.size 55 [.slice none 0 0, .int .i64 0, .int .i64 0] ∧ Blk w3 w2.heap.size 5 (tab n (fun _ => .int .u8 0)) ∧ w1.heap.size = w.heap.size + 1 ∧ w2.heap.size = w.heap.size + 2 ∧ w3.heap.size = w.heap.size + 3 := by
  subst h1 h2 h3
  have f2 : Fr [] (w.alloc (Obj.cells sv 66)) ((w.alloc (Obj.cells sv 66)).alloc (Obj.cells #[.slice none 0 0, .int .i64 0, .int .i64 0] 55)) := (Fr.refl _ _).alloc _
  have f3 : Fr [] ((w.alloc (Obj.cells sv 66)).alloc (Obj.cells #[.slice none 0 0, .int .i64 0, .int .i64 0] 55)) (((w.alloc (Obj.cells sv 66)).alloc (Obj.cells #[.slice none 0 0, .int .i64 0, .int .i64 0] 55)).alloc (Obj.cells (tab n (fun _ => .int .u8 0)).toArray 5)) := (Fr.refl _ _).alloc _
  exact ⟨(((Fr.refl [] w).alloc _).alloc _).alloc _, ((Blk.new' w 66 sv).fr0 f2).fr0 f3, (Blk.new' _ 55 #[.slice none 0 0, .int .i64 0, .int .i64 0]).fr0 f3, Blk.new _ 5 _, by simp, by simp, by simp⟩

theorem one_results (tmps : Array Value) (w : World) (b : Nat) (x y z : Value) (h4 : tmps.getD 4 undef = .pointer (some ⟨b, 0, none⟩)) (h5 : tmps.getD 5 undef = .bool true) (hB : Blk w b 55 [x, y, z]) :
    (results Tryd.f40 tmps).run Tryd.prog w = .ok (.tuple #[.agg #[x, y, z], .bool true]) w := by
  rw [results_cell_tmp rfl, h4, h5]
  have h := run_loadVar_row (P := Tryd.prog) w b 55 55 #[x, y, z] _ _ hB Tryd.underlying55 rfl (by kernel_rfl)
  simp only [asAddr, Sem.run_pure, Result.andThen_ok, h]

theorem one_set {ms : List Nat} {w w' : World} (b : Nat) (h : Fr ms w w') (hb : b ∈ ms ∨ w.heap.size ≤ b) (x y z : Value) : Fr ms w (((w'.setCell ⟨b, 0, none⟩ x).setCell ⟨b, 1, none⟩ y).setCell ⟨b, 2, none⟩ z) :=
  ((h.setCell hb x).setCell hb y).setCell hb z

theorem enter48 (u v x : Value) (w : World) : Sem.run Tryd.prog (do let d ← Deferred.ofValue (Value.func (Fn.func 48) #[] #[]) #[u, v, x]; invoke d.target d.args) w = Result.ok (Next.enter 48 #[u, v, x]) w := by kernel_rfl

/-- A call of WriteAt, as a step of a region that draws its order. -/
theorem step_wa {ops : Array Oper} {o : Oper} {a : Act} {w : World} {K : Act → World → Prop} {Q : Exit → Act → World → Prop} {E : Prop} (hgd : o.guard = none) (x y z : Operand) (t1 t2 t3 : TypeId)
    (ho : o.op = .call { callee := .value (.func 48), args := #[x, y, z], argTypes := #[t1, t2, t3] }) (v1 v2 v3 u : Value) (G : World → Prop) (hx : a.eval x = v1) (hy : a.eval y = v2) (hz : a.eval z = v3) (hc : Calls Tryd.prog 48 #[v1, v2, v3] w fun e w' => e = .returned u ∧ G w')
    (h : ∀ w', G w' → K (a.put o.dst u) w') : if Region.wanted o (yielded ops a.tmps) = true then Oper.wp Tryd.prog o a w K Q else E := by
  have hw : Region.wanted o (yielded ops a.tmps) = true := by simp [Region.wanted, hgd]
  rw [if_pos hw]
  have hr : (execOp a.eval o).run Tryd.prog w = .ok (.enter 48 #[v1, v2, v3]) w := by
    have hf : a.eval (.func 48) = .func (.func 48) #[] #[] := rfl
    simp only [execOp, ho, resolve, List.map_toArray, List.map_cons, List.map_nil, hx, hy, hz, hf]
    exact enter48 v1 v2 v3 w
  show o.upon Tryd.prog a K Q ((execOp a.eval o).run Tryd.prog w)
  rw [hr, Oper.upon_enter]
  refine hc.mono ?_
  rintro e w' ⟨rfl, hf⟩
  exact h w' hf

set_option maxRecDepth 100000 in
set_option maxHeartbeats 4000000 in
theorem one_seek (X : MX) (F dat : Nat → UInt8) (i abs : Nat) (ofs wh : Int) (w : World) (h : X.At F dat i w) (hw : (wh = 0 ∧ ofs = (abs : Int)) ∨ (wh = 1 ∧ (i : Int) + ofs = (abs : Int))) (habs : abs < X.len) (hofs : -100000 ≤ ofs ∧ ofs ≤ 100000) :
    OneIs X F dat i w (.agg #[.int .i64 1, .int .i64 0, .int .i64 ofs, .int .i64 wh, .slice none 0 0]) abs dat abs 0 (fun _ => 0) := by
  obtain ⟨t0, r, h1, h2, hF⟩ := h.fl
  have hsk : ∀ w', Fr [] w w' → _ := fun w' f => seek_any X.R F X.mini X.q X.K X.len X.fb i abs X.dk X.ini t0 r ofs wh X.nm X.pv X.ch X.off dat w' (h.R.fr0 f) h.S (Blk.fr0 hF f) h1 h2 h.fbl (f.cell0 h.st) h.df.1 hw habs h.l5 h.il
  have hmk : ∀ w, (Instr.makeSlice 23 (.int .i64 0) (.int .i64 0)).run Tryd.prog w = .ok (.slice (some ⟨w.heap.size, 0, none⟩) 0 0) (w.alloc (.cells (tab 0 (fun _ => .int .u8 0)).toArray 5)) := make_buf 0 (by omega)
  have hfl := hF.lt
  have HSK := Lib.hid hsk
  have HH := Lib.hid h
  clear hsk h hF hw h1
  go_enter Tryd.func40, Tryd.ntmps40
  go_wp2_with fail
  generalize hw1 : w.alloc (Obj.cells #[.int .i64 1, .int .i64 0, .int .i64 ofs, .int .i64 wh, .slice none 0 0] 66) = w1
  generalize hw2 : w1.alloc (Obj.cells #[.slice none 0 0, .int .i64 0, .int .i64 0] 55) = w2
  generalize hw3 : w2.alloc (Obj.cells (tab 0 (fun _ => .int .u8 0)).toArray 5) = w3
  obtain ⟨hf3, hb1, hb2, hb3, hz1, hz2, hz3⟩ := one_env hw1 hw2 hw3
  rw [hz1] at hb2
  clear hw1 hw2 hw3 hmk hb1 hb3
  refine (HSK.out _ hf3).mono ?_
  rintro e w4 ⟨rfl, hf4, hfl4⟩
  have hB4 := hb2.fr hf4 (by simp; omega)
  have HF4 := Lib.hid (And.intro hf3 (And.intro hf4 hfl4))
  have HZ := Lib.hid (And.intro hz1 (And.intro hz2 hz3))
  clear hf4 hfl4 hb2 hf3 hz1 hz2 hz3
  go_wp2_with fail
  refine (code_nil _).mono ?_
  rintro e w5 ⟨rfl, rfl⟩
  have k0 := hB4.cell 0
  have k1 := hB4.cell 1
  have k2 := hB4.cell 2
  have z0 := hB4.frozen 0
  have z1 := hB4.frozen 1
  have z2 := hB4.frozen 2
  go_wp2_with fail
  have hBf := ((hB4.set 0 (.slice none 0 0)).set 1 (.int .i64 (abs : Nat))).set 2 (.int .i64 0)
  obtain ⟨hf3, hf4, t', r', a1, a2, hfl4⟩ := HF4.out
  have hf := one_set (w.heap.size + 1) ((hf3.mono (ms' := [X.fb]) (by simp)).trans_same hf4) (.inr (by omega)) (.slice none 0 0) (.int .i64 (abs : Nat)) (.int .i64 0)
  have hfl5 := hfl4.fr (one_set (ms := [w.heap.size + 1]) (w.heap.size + 1) (Fr.refl _ w4) (.inl (by simp)) (.slice none 0 0) (.int .i64 (abs : Nat)) (.int .i64 0)) (by simp; omega)
  refine bodyPost_ret (one_results _ _ _ _ _ _ rfl rfl hBf) rfl ⟨_, F, rfl, hf.mono (by simp), HH.out.move hf (by simp) ⟨t', r', a1, a2, hfl5⟩ (by omega), Turned.refl HH.out.S HH.out.q0, own_nil _ _ _ _⟩

set_option maxRecDepth 100000 in
set_option maxHeartbeats 4000000 in
theorem one_read (X : MX) (F dat : Nat → UInt8) (i n : Nat) (w : World) (h : X.At F dat i w) (h1 : 1 ≤ n) (h2 : n ≤ 200) (h3 : i + n ≤ X.len) :
    OneIs X F dat i w (.agg #[.int .i64 0, .int .i64 (n : Nat), .int .i64 0, .int .i64 0, .slice none 0 0]) (i + n) dat n n (fun y => dat (i + y)) := by
  obtain ⟨t0, r, b1, b2, hF⟩ := h.fl
  have hrd : ∀ w3 pb, Fr [] w w3 → w.heap.size ≤ pb → Blk w3 pb 5 (tab n (fun _ => .int .u8 0)) → _ := fun w3 pb f hp hB => read_any X.R F X.mini X.q X.K X.len X.fb pb n n i n X.dk X.ini t0 r X.nm X.pv X.ev .nilIface X.ch X.off dat (tab n (fun _ => .int .u8 0)) w3 (h.R.fr0 f) h.S (Blk.fr0 hF f) b1 b2 h.fbl (fun hm => by have := h.lt _ hm; omega) (fun x hx => by have := h.lt _ hx; have := f.size; omega) h1 (by omega) h.l5 h3 (.inl ⟨rfl, rfl⟩) hB (by simp) (Nat.le_refl _) (by omega) (f.cell0 h.ev) ⟨h.z0.1, by have := World.block_lt_of_cell? _ _ h.ev; dsimp only at this; omega⟩
  have hmk := make_buf n (by omega)
  have hfl := hF.lt
  have hnI : decide ((65536 : Int) < n) = false := by simp; omega
  have hn0 : decide ((n : Int) < 0) = false := by simp
  obtain ⟨i0, hi, hz0, hz1, hz2⟩ := info_parts info5
  have HRD := Lib.hid hrd
  have HH := Lib.hid h
  clear hrd h hF b1
  go_enter Tryd.func40, Tryd.ntmps40
  go_wp2_with fail
  generalize hw1 : w.alloc (Obj.cells #[.int .i64 0, .int .i64 (n : Nat), .int .i64 0, .int .i64 0, .slice none 0 0] 66) = w1
  generalize hw2 : w1.alloc (Obj.cells #[.slice none 0 0, .int .i64 0, .int .i64 0] 55) = w2
  generalize hw3 : w2.alloc (Obj.cells (tab n (fun _ => .int .u8 0)).toArray 5) = w3
  obtain ⟨hf3, hb1, hb2, hb3, hz1', hz2', hz3⟩ := one_env hw1 hw2 hw3
  rw [hz1'] at hb2
  rw [hz2'] at hb3
  have HZ := Lib.hid (And.intro hz1' (And.intro hz2' hz3))
  clear hw1 hw2 hw3 hmk hb1 hz1' hz2' hz3
  refine (HRD.out _ _ hf3 (by omega) hb3).mono ?_
  rintro e w4 ⟨rfl, hf4, hfl4, l, hl1, hl2, hl3⟩
  have hB4 := hb2.fr hf4 (by simp; omega)
  have HF4 := Lib.hid (And.intro hf3 (And.intro hf4 hfl4))
  have hnews : ∀ y u, (tab n (fun y => U8 (dat (i + y))))[y]? = some u → w4.cell? ((⟨w.heap.size + 1 + 1, 0, none⟩ : Addr).add y) = some u := by
    intro y u hy
    rw [tab_get?] at hy
    split at hy
    · rename_i hyn
      simp at hy; subst hy
      rw [Addr.add_mid, Nat.zero_add]
      exact (hl1.cell y).trans (hl3 y hyn)
    · cases hy
  have hone : ∀ u ∈ tab n (fun y => U8 (dat (i + y))), u.oneCell' = true := by
    intro u hu
    obtain ⟨y, hy⟩ := List.getElem?_of_mem hu
    rw [tab_get?] at hy
    split at hy
    · simp at hy; subst hy; rfl
    · cases hy
  have hcap : (0 + n) * 1 ≤ 140737488355328 := by omega
  have h63 : 0 + n ≤ maxLen := by unfold maxLen; omega
  have hsz4 : w.heap.size ≤ w4.heap.size := by have := hf3.size; have := hf4.size; omega
  have hlen1 : (tab n (fun y => U8 (dat (i + y)))).length = n * 1 := by simp
  have HN := Lib.hid (And.intro hnews (And.intro hone hlen1))
  clear hf4 hfl4 hb2 hf3 hb3 hl1 hl2 hl3 hnews hone hlen1
  go_wp2_with (at_builtin; refine wpList_append_own _ rfl _ (.tmp 97) 23 rfl w.heap.size 5 i0 (.int .u8 0) 1 1 Tryd.underlying23 hi hz0 hz1 hz2 rfl (by decide) (.slice none 0 0) 0 [] rfl (own_nil _ _ _ _) ⟨w.heap.size + 1 + 1, 0, none⟩ n n (tab n (fun y => U8 (dat (i + y)))) rfl HN.out.2.2 HN.out.1 HN.out.2.1 h63 hcap hsz4 ?_)
  intro v5 w5 hown hg _
  obtain ⟨a5, c5, rfl⟩ := own_slice hown
  have hf5 : Fr [] w4 w5 := Fr.of_grown hg
  have hB5 := hB4.fr0 hf5
  have HO := Lib.hid hown
  have k0 := hB5.cell 0
  have k1 := hB5.cell 1
  have k2 := hB5.cell 2
  have z0 := hB5.frozen 0
  have z1 := hB5.frozen 1
  have z2 := hB5.frozen 2
  clear hown hg
  go_wp2_with fail
  refine (code_nil _).mono ?_
  rintro e w6 ⟨rfl, rfl⟩
  go_wp2_with fail
  have hBf := ((hB5.set 0 (.slice a5 n c5)).set 1 (.int .i64 (n : Nat))).set 2 (.int .i64 0)
  obtain ⟨hf3, hf4, t', r', a1, a2, hfl4⟩ := HF4.out
  have hf45 := (hf3.mono (ms' := [X.fb]) (by simp)).trans (ms := [X.fb]) (hf4.trans0 hf5) (by simp)
  have hf := one_set (w.heap.size + 1) hf45 (.inr (by omega)) (.slice a5 n c5) (.int .i64 (n : Nat)) (.int .i64 0)
  have hg5 := one_set (ms := [w.heap.size + 1]) (w.heap.size + 1) (Fr.refl _ w5) (.inl (by simp)) (.slice a5 n c5) (.int .i64 (n : Nat)) (.int .i64 0)
  have hfl5 := (hfl4.fr0 hf5).fr hg5 (by simp; omega)
  refine bodyPost_ret (one_results _ _ _ _ _ _ rfl rfl hBf) rfl ⟨_, F, rfl, hf.mono (by simp), HH.out.move hf (by simp) ⟨t', r', a1.symm, a2, hfl5⟩ (by omega), Turned.refl HH.out.S HH.out.q0, own_fr HO.out hg5 (fun k hk hm => ?_)⟩
  simp at hm
  subst hm
  exact own_ne HO.out hB5 (by decide) (by rw [hk]; simp)

set_option maxRecDepth 100000 in
set_option maxHeartbeats 4000000 in
theorem one_readat (X : MX) (F dat : Nat → UInt8) (i n abs : Nat) (w : World) (h : X.At F dat i w) (h1 : 1 ≤ n) (h2 : n ≤ 200) (h3 : abs + n ≤ X.len) :
    OneIs X F dat i w (.agg #[.int .i64 2, .int .i64 (n : Nat), .int .i64 (abs : Nat), .int .i64 0, .slice none 0 0]) i dat n n (fun y => dat (abs + y)) := by
  obtain ⟨t0, r, b1, b2, hF⟩ := h.fl
  have hrd : ∀ w3 pb, Fr [] w w3 → w.heap.size ≤ pb → Blk w3 pb 5 (tab n (fun _ => .int .u8 0)) → _ := fun w3 pb f hp hB => freadat_any X.R F X.mini X.q X.K X.len X.fb pb n n i abs X.dk X.ini t0 r X.nm X.pv X.ev X.ch X.off dat (tab n (fun _ => .int .u8 0)) w3 (h.R.fr0 f) h.S (Blk.fr0 hF f) b1 b2 h.il h.fbl (fun hm => by have := h.lt _ hm; omega) (fun x hx => by have := h.lt _ hx; have := f.size; omega) h1 h3 h.l5 (f.cell0 h.st) h.df.1 hB (by simp) (Nat.le_refl _) (by omega) (f.cell0 h.ev) ⟨h.z0.1, by have := World.block_lt_of_cell? _ _ h.ev; dsimp only at this; omega⟩
  have hmk := make_buf n (by omega)
  have hfl := hF.lt
  have hnI : decide ((65536 : Int) < n) = false := by simp; omega
  have hn0 : decide ((n : Int) < 0) = false := by simp
  obtain ⟨i0, hi, hz0, hz1, hz2⟩ := info_parts info5
  have HRD := Lib.hid hrd
  have HH := Lib.hid h
  have HB := Lib.hid b1
  clear hrd h hF b1
  go_enter Tryd.func40, Tryd.ntmps40
  go_wp2_with fail
  generalize hw1 : w.alloc (Obj.cells #[.int .i64 2, .int .i64 (n : Nat), .int .i64 (abs : Nat), .int .i64 0, .slice none 0 0] 66) = w1
  generalize hw2 : w1.alloc (Obj.cells #[.slice none 0 0, .int .i64 0, .int .i64 0] 55) = w2
  generalize hw3 : w2.alloc (Obj.cells (tab n (fun _ => .int .u8 0)).toArray 5) = w3
  obtain ⟨hf3, hb1, hb2, hb3, hz1', hz2', hz3⟩ := one_env hw1 hw2 hw3
  rw [hz1'] at hb2
  rw [hz2'] at hb3
  have HZ := Lib.hid (And.intro hz1' (And.intro hz2' hz3))
  clear hw1 hw2 hw3 hmk hb1 hz1' hz2' hz3
  refine (HRD.out _ _ hf3 (by omega) hb3).mono ?_
  rintro e w4 ⟨rfl, hf4, hfl4, l, hl1, hl2, hl3⟩
  have hB4 := hb2.fr hf4 (by simp; omega)
  have HF4 := Lib.hid (And.intro hf3 (And.intro hf4 hfl4))
  have hnews : ∀ y u, (tab n (fun y => U8 (dat (abs + y))))[y]? = some u → w4.cell? ((⟨w.heap.size + 1 + 1, 0, none⟩ : Addr).add y) = some u := by
    intro y u hy
    rw [tab_get?] at hy
    split at hy
    · rename_i hyn
      simp at hy; subst hy
      rw [Addr.add_mid, Nat.zero_add]
      exact (hl1.cell y).trans (hl3 y hyn)
    · cases hy
  have hone : ∀ u ∈ tab n (fun y => U8 (dat (abs + y))), u.oneCell' = true := by
    intro u hu
    obtain ⟨y, hy⟩ := List.getElem?_of_mem hu
    rw [tab_get?] at hy
    split at hy
    · simp at hy; subst hy; rfl
    · cases hy
  have hcap : (0 + n) * 1 ≤ 140737488355328 := by omega
  have h63 : 0 + n ≤ maxLen := by unfold maxLen; omega
  have hsz4 : w.heap.size ≤ w4.heap.size := by have := hf3.size; have := hf4.size; omega
  have hlen1 : (tab n (fun y => U8 (dat (abs + y)))).length = n * 1 := by simp
  have HN := Lib.hid (And.intro hnews (And.intro hone hlen1))
  clear hf4 hfl4 hb2 hf3 hb3 hl1 hl2 hl3 hnews hone hlen1
  go_wp2_with (at_builtin; refine wpList_append_own _ rfl _ (.tmp 97) 23 rfl w.heap.size 5 i0 (.int .u8 0) 1 1 Tryd.underlying23 hi hz0 hz1 hz2 rfl (by decide) (.slice none 0 0) 0 [] rfl (own_nil _ _ _ _) ⟨w.heap.size + 1 + 1, 0, none⟩ n n (tab n (fun y => U8 (dat (abs + y)))) rfl HN.out.2.2 HN.out.1 HN.out.2.1 h63 hcap hsz4 ?_)
  intro v5 w5 hown hg _
  obtain ⟨a5, c5, rfl⟩ := own_slice hown
  have hf5 : Fr [] w4 w5 := Fr.of_grown hg
  have hB5 := hB4.fr0 hf5
  have HO := Lib.hid hown
  have k0 := hB5.cell 0
  have k1 := hB5.cell 1
  have k2 := hB5.cell 2
  have z0 := hB5.frozen 0
  have z1 := hB5.frozen 1
  have z2 := hB5.frozen 2
  clear hown hg
  go_wp2_with fail
  refine (code_nil _).mono ?_
  rintro e w6 ⟨rfl, rfl⟩
  go_wp2_with fail
  have hBf := ((hB5.set 0 (.slice a5 n c5)).set 1 (.int .i64 (n : Nat))).set 2 (.int .i64 0)
  obtain ⟨hf3, hf4, hfl4⟩ := HF4.out
  have hf45 := (hf3.mono (ms' := [X.fb]) (by simp)).trans (ms := [X.fb]) (hf4.trans0 hf5) (by simp)
  have hf := one_set (w.heap.size + 1) hf45 (.inr (by omega)) (.slice a5 n c5) (.int .i64 (n : Nat)) (.int .i64 0)
  have hg5 := one_set (ms := [w.heap.size + 1]) (w.heap.size + 1) (Fr.refl _ w5) (.inl (by simp)) (.slice a5 n c5) (.int .i64 (n : Nat)) (.int .i64 0)
  have hfl5 := (Blk.fr0 hfl4 hf5).fr hg5 (by simp; omega)
  refine bodyPost_ret (one_results _ _ _ _ _ _ rfl rfl hBf) rfl ⟨_, F, rfl, hf.mono (by simp), HH.out.move hf (by simp) ⟨t0, r, HB.out, b2, hfl5⟩ HH.out.il, Turned.refl HH.out.S HH.out.q0, own_fr HO.out hg5 (fun k hk hm => ?_)⟩
  simp at hm
  subst hm
  exact own_ne HO.out hB5 (by decide) (by rw [hk]; simp)

set_option maxRecDepth 100000 in
set_option maxHeartbeats 4000000 in
theorem one_write (X : MX) (F dat x : Nat → UInt8) (i m pb pc : Nat) (w : World) (h : X.At F dat i w) (h1 : 1 ≤ m) (h2 : m ≤ 200) (h3 : i + m ≤ X.len) (hmc : m ≤ pc) (hx : ∀ y, y < m → w.cell? ⟨pb, y, none⟩ = some (U8 (x y))) :
    OneIs X F dat i w (.agg #[.int .i64 3, .int .i64 0, .int .i64 0, .int .i64 0, .slice (some ⟨pb, 0, none⟩) m pc]) (i + m) (turnD dat i m x) m 0 (fun _ => 0) := by
  obtain ⟨t0, r, b1, b2, hF⟩ := h.fl
  obtain ⟨wa, g1, g2⟩ := h.rb
  obtain ⟨lb, g3, g4⟩ := h.bb
  have hwr : ∀ w3 qb qc, Fr [] w w3 → w.heap.size ≤ qb → m ≤ qc → (∀ y, y < m → w3.cell? ⟨qb, y, none⟩ = some (U8 (x y))) → _ := fun w3 qb qc f hp hc hB => fwrite_any X.R F X.mini X.q X.K X.len X.fb qb qc i m X.dk X.ini t0 r X.ss X.nm X.pv X.buf X.hdr X.file X.dir wa X.k X.ch X.off dat x w3 (h.R.fr0 f) h.S h.A (Blk.fr0 hF f) b1 b2 h.fbl (fun hm => by have := h.lt _ hm; omega) (by have := hF.lt; omega) (fun x hx => by have := h.lt _ hx; have := f.size; omega) h1 h3 h.l5 hB hc (g2.fr0 f) g1 h.bbs ⟨lb, g3.fr0 f, g4⟩
  have hmk : ∀ w, (Instr.makeSlice 23 (.int .i64 0) (.int .i64 0)).run Tryd.prog w = .ok (.slice (some ⟨w.heap.size, 0, none⟩) 0 0) (w.alloc (.cells (tab 0 (fun _ => .int .u8 0)).toArray 5)) := make_buf 0 (by omega)
  have hfl := hF.lt
  have hrl := g2.lt
  have hbl := g3.lt
  have hnI : decide ((65536 : Int) < m) = false := by simp; omega
  obtain ⟨i0, hi, hz0, hz1, hz2⟩ := info_parts info5
  have HX := Lib.hid hx
  have HWR := Lib.hid hwr
  have HH := Lib.hid h
  clear hwr h hF b1 g1 g2 g3 g4 hx
  go_enter Tryd.func40, Tryd.ntmps40
  go_upto_region 16 with (fail)
  generalize hw1 : w.alloc (Obj.cells #[.int .i64 3, .int .i64 0, .int .i64 0, .int .i64 0, .slice (some ⟨pb, 0, none⟩) m pc] 66) = w1
  generalize hw2 : w1.alloc (Obj.cells #[.slice none 0 0, .int .i64 0, .int .i64 0] 55) = w2
  generalize hw3 : w2.alloc (Obj.cells (tab 0 (fun _ => .int .u8 0)).toArray 5) = w3
  obtain ⟨hf3, hb1, hb2, hb3, hz1', hz2', hz3⟩ := one_env hw1 hw2 hw3
  rw [hz1'] at hb2
  have HZ := Lib.hid (And.intro hz1' (And.intro hz2' hz3))
  have k4 := hb1.cell 4
  clear hw1 hw2 hw3 hmk hb3 hz1' hz2' hz3
  have hnews : ∀ y u, (tab m (fun y => U8 (x y)))[y]? = some u → w3.cell? ((⟨pb, 0, none⟩ : Addr).add y) = some u := by
    intro y u hy
    rw [tab_get?] at hy
    split at hy
    · rename_i hyn
      simp at hy; subst hy
      rw [Addr.add_mid, Nat.zero_add]
      exact hf3.cell0 (HX.out y hyn)
    · cases hy
  have hone : ∀ u ∈ tab m (fun y => U8 (x y)), u.oneCell' = true := by
    intro u hu
    obtain ⟨y, hy⟩ := List.getElem?_of_mem hu
    rw [tab_get?] at hy
    split at hy
    · simp at hy; subst hy; rfl
    · cases hy
  have hcap : (0 + m) * 1 ≤ 140737488355328 := by omega
  have h63 : 0 + m ≤ maxLen := by unfold maxLen; omega
  have hsz3 : w.heap.size ≤ w3.heap.size := hf3.size
  have hlen1 : (tab m (fun y => U8 (x y))).length = m * 1 := by simp
  have HN := Lib.hid (And.intro hnews (And.intro hone hlen1))
  have HF3 := Lib.hid hf3
  clear hnews hone hlen1 hf3 hb1
  go_wp2_with (at_builtin; refine wpList_append_own _ rfl _ (.tmp 70) 23 rfl w.heap.size 5 i0 (.int .u8 0) 1 1 Tryd.underlying23 hi hz0 hz1 hz2 rfl (by decide) (.slice none 0 0) 0 [] rfl (own_nil _ _ _ _) ⟨pb, 0, none⟩ m pc (tab m (fun y => U8 (x y))) rfl HN.out.2.2 HN.out.1 HN.out.2.1 h63 hcap hsz3 ?_)
  intro v5 w5 hown hg _
  obtain ⟨qb, qc, l5, rfl, hq1, hq2, hq3, hq4, _⟩ := own_blk2 hown h1
  have hf5 : Fr [] w3 w5 := Fr.of_grown hg
  have hB5 := hb2.fr0 hf5
  have hf35 := HF3.out.trans0 hf5
  have hwr := HWR.out w5 qb qc hf35 hq1 hq4 (fun y hy => (hq2.cell y).trans (hq3 y hy))
  have HW5 := Lib.hid (And.intro hf35 hwr)
  clear hown hg hf5 hf35 hwr hq2 hq3 hb2
  go_wp2_with fail
  refine HW5.out.2.mono ?_
  rintro e w6 ⟨rfl, hf6, hrb6, hfl6, F', hR6, hT6, hS6, hA6, hbb6⟩
  have hB6 := hB5.fr hf6 (by simp; omega)
  have hf06 := (HW5.out.1.mono (ms' := [X.fb, X.R.rb, X.R.bb]) (by simp)).trans_same hf6
  have H6 := Lib.hid (And.intro hf06 (And.intro hrb6 (And.intro hfl6 (And.intro hR6 (And.intro hT6 (And.intro hS6 (And.intro hA6 hbb6)))))))
  have k0 := hB6.cell 0
  have k1 := hB6.cell 1
  have k2 := hB6.cell 2
  have z0 := hB6.frozen 0
  have z1 := hB6.frozen 1
  have z2 := hB6.frozen 2
  clear hf06 hrb6 hfl6 hR6 hT6 hS6 hA6 hbb6 hf6 hB5
  go_wp2_with fail
  refine (code_nil _).mono ?_
  rintro e w7 ⟨rfl, rfl⟩
  go_wp2_with fail
  have hBf := ((hB6.set 0 (.slice none 0 0)).set 1 (.int .i64 (m : Nat))).set 2 (.int .i64 0)
  obtain ⟨hf06, hrb6, ⟨t', r', a1, a2, hfl6⟩, hR6, hT6, hS6, hA6, l6, a3, a4⟩ := H6.out
  have hf := one_set (w.heap.size + 1) hf06 (.inr (by omega)) (.slice none 0 0) (.int .i64 (m : Nat)) (.int .i64 0)
  have hg5 := one_set (ms := [w.heap.size + 1]) (w.heap.size + 1) (Fr.refl _ w6) (.inl (by simp)) (.slice none 0 0) (.int .i64 (m : Nat)) (.int .i64 0)
  have hno : ∀ y, y < w.heap.size → y ∉ [w.heap.size + 1] := fun y hy => by simp; omega
  exact bodyPost_ret (one_results _ _ _ _ _ _ rfl rfl hBf) rfl ⟨_, F', rfl, hf, HH.out.step hf (by simp) (hR6.fr hg5 (fun y hy => hno y (HH.out.lt y hy))) hS6 hA6 ⟨t', r', a1, a2, Blk.fr hfl6 hg5 (hno _ hfl)⟩ ⟨_, .inr rfl, Blk.fr hrb6 hg5 (hno _ hrl)⟩ ⟨l6, a3.fr hg5 (hno _ hbl), a4⟩ h3, hT6, own_nil _ _ _ _⟩

set_option maxRecDepth 100000 in
set_option maxHeartbeats 4000000 in
theorem one_writeat (X : MX) (F dat x : Nat → UInt8) (i abs m pb pc : Nat) (w : World) (h : X.At F dat i w) (h1 : 1 ≤ m) (h2 : m ≤ 200) (h3 : abs + m ≤ X.len) (hmc : m ≤ pc) (hx : ∀ y, y < m → w.cell? ⟨pb, y, none⟩ = some (U8 (x y))) :
    OneIs X F dat i w (.agg #[.int .i64 4, .int .i64 0, .int .i64 (abs : Nat), .int .i64 0, .slice (some ⟨pb, 0, none⟩) m pc]) i (turnD dat abs m x) m 0 (fun _ => 0) := by
  obtain ⟨t0, r, b1, b2, hF⟩ := h.fl
  obtain ⟨wa, g1, g2⟩ := h.rb
  obtain ⟨lb, g3, g4⟩ := h.bb
  have hwr : ∀ w3 qb qc, Fr [] w w3 → w.heap.size ≤ qb → m ≤ qc → (∀ y, y < m → w3.cell? ⟨qb, y, none⟩ = some (U8 (x y))) → _ := fun w3 qb qc f hp hc hB => fwriteat_any X.R F X.mini X.q X.K X.len X.fb qb qc i abs m X.dk X.ini t0 r X.ss X.nm X.pv X.buf X.hdr X.file X.dir wa X.k X.ch X.off dat x w3 (h.R.fr0 f) h.S h.A (Blk.fr0 hF f) b1 b2 h.il h.fbl (fun hm => by have := h.lt _ hm; omega) (by have := hF.lt; omega) (fun x hx => by have := h.lt _ hx; have := f.size; omega) h1 h3 h.l5 (f.cell0 h.st) h.df.1 hB hc (g2.fr0 f) g1 h.bbs ⟨lb, g3.fr0 f, g4⟩
  have hmk : ∀ w, (Instr.makeSlice 23 (.int .i64 0) (.int .i64 0)).run Tryd.prog w = .ok (.slice (some ⟨w.heap.size, 0, none⟩) 0 0) (w.alloc (.cells (tab 0 (fun _ => .int .u8 0)).toArray 5)) := make_buf 0 (by omega)
  have hfl := hF.lt
  have hrl := g2.lt
  have hbl := g3.lt
  have hnI : decide ((65536 : Int) < m) = false := by simp; omega
  obtain ⟨i0, hi, hz0, hz1, hz2⟩ := info_parts info5
  have HX := Lib.hid hx
  have HBT := Lib.hid b1
  have HWR := Lib.hid hwr
  have HH := Lib.hid h
  clear hwr h hF b1 g1 g2 g3 g4 hx
  go_enter Tryd.func40, Tryd.ntmps40
  go_upto_region 19 with (fail)
  generalize hw1 : w.alloc (Obj.cells #[.int .i64 4, .int .i64 0, .int .i64 (abs : Nat), .int .i64 0, .slice (some ⟨pb, 0, none⟩) m pc] 66) = w1
  generalize hw2 : w1.alloc (Obj.cells #[.slice none 0 0, .int .i64 0, .int .i64 0] 55) = w2
  generalize hw3 : w2.alloc (Obj.cells (tab 0 (fun _ => .int .u8 0)).toArray 5) = w3
  obtain ⟨hf3, hb1, hb2, hb3, hz1', hz2', hz3⟩ := one_env hw1 hw2 hw3
  rw [hz1'] at hb2
  have HZ := Lib.hid (And.intro hz1' (And.intro hz2' hz3))
  have k4 := hb1.cell 4
  clear hw1 hw2 hw3 hmk hb3 hz1' hz2' hz3
  have hnews : ∀ y u, (tab m (fun y => U8 (x y)))[y]? = some u → w3.drew.cell? ((⟨pb, 0, none⟩ : Addr).add y) = some u := by
    intro y u hy
    rw [tab_get?] at hy
    split at hy
    · rename_i hyn
      simp at hy; subst hy
      rw [Addr.add_mid, Nat.zero_add]
      exact hf3.cell0 (HX.out y hyn)
    · cases hy
  have hone : ∀ u ∈ tab m (fun y => U8 (x y)), u.oneCell' = true := by
    intro u hu
    obtain ⟨y, hy⟩ := List.getElem?_of_mem hu
    rw [tab_get?] at hy
    split at hy
    · simp at hy; subst hy; rfl
    · cases hy
  have hcap : (0 + m) * 1 ≤ 140737488355328 := by omega
  have h63 : 0 + m ≤ maxLen := by unfold maxLen; omega
  have hsz3 : w.heap.size ≤ w3.heap.size := hf3.size
  have hlen1 : (tab m (fun y => U8 (x y))).length = m * 1 := by simp
  have HN := Lib.hid (And.intro hnews (And.intro hone hlen1))
  have HF3 := Lib.hid hf3
  have HB1 := Lib.hid hb1
  clear hnews hone hlen1 hf3 hb1
  have k2 := HB1.out.cell 2
  go_region_law (first
    | (refine step_append_own rfl (.const (.slice none 0 0)) (.tmp 84) 23 rfl w.heap.size 5 i0 (.int .u8 0) 1 1 Tryd.underlying23 hi hz0 hz1 hz2 rfl (by decide) (.slice none 0 0) 0 [] rfl (own_nil _ _ _ _) ⟨pb, 0, none⟩ m pc (tab m (fun y => U8 (x y))) rfl HN.out.2.2 HN.out.1 HN.out.2.1 h63 hcap hsz3 ?_
       rintro v5 w5 hown hg
       rw [Nat.zero_add, List.nil_append] at hown
       obtain ⟨qb, qc, l5, rfl, hq1, hq2, hq3, hq4, _⟩ := own_blk2 hown h1
       have hf5 : Fr [] w3.drew w5 := Fr.of_grown hg
       have hB5 := hb2.drew.fr0 hf5
       have kk2 := hf5.cell0 k2
       have hf35 := HF3.out.drew.trans0 hf5
       have hwr := HWR.out w5 qb qc hf35 hq1 hq4 (fun y hy => (hq2.cell y).trans (hq3 y hy))
       have HW5 := Lib.hid (And.intro hf35 hwr)
       have HB5 := Lib.hid hB5
       clear hown hg hf5 hf35 hwr hq2 hq3 hB5)
    | (refine step_wa rfl (.tmp 82) (.tmp 85) (.tmp 87) 92 23 2 rfl _ _ _ _ _ rfl rfl rfl HW5.out.2 ?_
       rintro w6 ⟨hf6, hrb6, hfl6, F', hR6, hT6, hS6, hA6, hbb6⟩
       have hB6 := HB5.out.fr hf6 (by simp; omega)
       have hf06 := (HW5.out.1.mono (ms' := [X.fb, X.R.rb, X.R.bb]) (by simp)).trans_same hf6
       have H6 := Lib.hid (And.intro hf06 (And.intro hrb6 (And.intro hfl6 (And.intro hR6 (And.intro hT6 (And.intro hS6 (And.intro hA6 hbb6)))))))
       have HB6 := Lib.hid hB6
       clear hf06 hrb6 hfl6 hR6 hT6 hS6 hA6 hbb6 hf6 hB6))
  all_goals
    have hB6 := HB6.out
    have k0 := hB6.cell 0
    have k1 := hB6.cell 1
    have k2 := hB6.cell 2
    have z0 := hB6.frozen 0
    have z1 := hB6.frozen 1
    have z2 := hB6.frozen 2
    go_wp2_with fail
    refine (code_nil _).mono ?_
    rintro e w7 ⟨rfl, rfl⟩
    go_wp2_with fail
    have hBf := ((hB6.set 0 (.slice none 0 0)).set 1 (.int .i64 (m : Nat))).set 2 (.int .i64 0)
    obtain ⟨hf06, hrb6, hfl6, hR6, hT6, hS6, hA6, l6, a3, a4⟩ := H6.out
    have hf := one_set (w.heap.size + 1) hf06 (.inr (by omega)) (.slice none 0 0) (.int .i64 (m : Nat)) (.int .i64 0)
    have hg5 := one_set (ms := [w.heap.size + 1]) (w.heap.size + 1) (Fr.refl _ w6) (.inl (by simp)) (.slice none 0 0) (.int .i64 (m : Nat)) (.int .i64 0)
    have hno : ∀ y, y < w.heap.size → y ∉ [w.heap.size + 1] := fun y hy => by simp; omega
    exact bodyPost_ret (one_results _ _ _ _ _ _ rfl rfl hBf) rfl ⟨_, F', rfl, hf, HH.out.step hf (by simp) (hR6.fr hg5 (fun y hy => hno y (HH.out.lt y hy))) hS6 hA6 ⟨t0, r, HBT.out, b2, Blk.fr hfl6 hg5 (hno _ hfl)⟩ ⟨_, .inr rfl, Blk.fr hrb6 hg5 (hno _ hrl)⟩ ⟨l6, a3.fr hg5 (hno _ hbl), a4⟩ HH.out.il, hT6, own_nil _ _ _ _⟩
end Go.Proofs.YtokpomdfgbbhlaaDoor
