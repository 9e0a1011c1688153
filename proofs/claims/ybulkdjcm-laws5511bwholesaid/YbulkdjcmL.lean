/-
  THE LAW (func 3).
-/
import Derived.Test.YbulkdjcmM
import Derived.Deep.CutBlock
import Derived.Deep.DeepCutAuto
import Derived.Deep.RegionHeld3
namespace Go.Proofs.Ybulkdjcm
open Go.RowKit Go.ChangeMaps Go.Sort

theorem run_make (t : TypeId) (w : World) : (Instr.makeMap t none).run Yba.prog w = .ok (.map (some w.heap.size)) (w.alloc (.map #[] 0)) := rfl
attribute [local go_sem] run_make

set_option maxHeartbeats 16000000 in
set_option maxRecDepth 100000 in
theorem law_any (n : Int) (nmask emask b off c1 : Nat) (a1 : Option Addr) (E : List Ent) (w : World) (hE : Er w a1 b off E) (hlen : E.length ≤ 4096)
    (_n0 : -9223372036854775808 ≤ n) (_n1 : n ≤ 9223372036854775807) (_hnm : nmask < 256) (_hem : emask < 256) :
    Calls Yba.prog 3 #[.int .i64 n, .slice a1 E.length c1, .int .u8 nmask, .int .u8 emask] w fun e w' => e = .returned (.bool true) ∧ Below w.heap.size w w' := by
  have HE := hide hE
  clear hE
  generalize hL : E.length = L at *
  have hLi : (L : Int) ≤ 4096 := by omega
  go_enter Yba.func3, Yba.ntmps3
  go_upto_block 0 with (fail)
  go_cut [12] (fun _ wr => ∃ O ck, Pb w wr n O ck [] ∧ Pres wr (w.heap.size + 1) O)
  case first => as_aux_lemma =>
    have p0 := Pb.start w n (.cells #[.bool false, .bool false, .bool false, .bool false, .bool false, .bool false, .bool false, .bool false] 26)
    have r0 : Pres ((w.alloc (.map #[] 0)).alloc (.cells #[.bool false, .bool false, .bool false, .bool false, .bool false, .bool false, .bool false, .bool false] 26)) (w.heap.size + 1) [] := by
      intro j hj
      have : j = 0 ∨ j = 1 ∨ j = 2 ∨ j = 3 ∨ j = 4 ∨ j = 5 ∨ j = 6 ∨ j = 7 := by omega
      rcases this with rfl | rfl | rfl | rfl | rfl | rfl | rfl | rfl <;> exact ⟨by simp [keys], by simp⟩
    have H0 := hide (And.intro p0 r0)
    clear p0 r0
    go_wp2_with fail
    go_loopw [12] (fun v wr => ∃ (i : Nat) (O : List (Nat × Nat × Nat)) (ck : Nat), i ≤ 8 ∧ v = .int .i64 i ∧ Pb w wr n O ck [] ∧ Pres wr (w.heap.size + 1) O ∧ ∀ e ∈ O, e.1 < i) (fun v _ => 8 - (intOf v).toNat)
    case atStart => exact ⟨0, [], 0, by omega, rfl, H0.out.1, H0.out.2, fun e he => by cases he⟩
    case round =>
      clear H0
      obtain ⟨i, O, ck, hi, rfl, hp, hr, hlt⟩ := hrel
      by_cases hi8 : i < 8
      · have hk : i ∉ keys O := fun h => by
          obtain ⟨x, hx, he⟩ := List.mem_map.1 h
          have := hlt x hx
          omega
        obtain ⟨e1, e2, hp2⟩ := hp.make hi8 hk
        have oa : Ot (fun k => k = w.heap.size) wr (setBlock (wr.alloc (.map #[] 0)) w.heap.size (mobj sk VO (O ++ [(i, wr.heap.size, ck)]) (ck + 1))) := ((Ot.refl _ _).alloc _).setBlock _ _ (fun _ => rfl)
        have hr2 := hr.ot oa (by omega)
        have hup := run_update_mine (P := Yba.prog) (w := wr.alloc (.map #[] 0)) Yba.underlying25 keys9 hi8 hp.low (by rw [Below.heap_alloc _ _ _ (lt_of_block hp.pubs)]; exact hp.pubs) wr.heap.size
        rw [e1, e2] at hup
        generalize hW : setBlock (wr.alloc (.map #[] 0)) w.heap.size (mobj sk VO (O ++ [(i, wr.heap.size, ck)]) (ck + 1)) = w5 at hup hp2 hr2
        have hc5 := (hr2 i hi8).1
        have hf5 := (hr2 i hi8).2
        have HR := hide (And.intro hp (And.intro hr (And.intro hlt (And.intro hp2 (And.intro hr2 hup)))))
        clear hp hr hlt hp2 hr2 hup hW oa e1 e2
        have hii : (i : Int) < 8 := by omega
        go_wp2_with (first
          | (go_at_call 4; refine (name_at i hi8 _).mono ?_; rintro e w' ⟨rfl, rfl⟩)
          | (at_mapUpdate; refine wpList_update_run _ rfl _ _ _ _ rfl _ HR.out.2.2.2.2.2 ?_)
          | fail)
        · refine ⟨⟨i + 1, _, _, by omega, by go_num, HR.out.2.2.2.1.ot ((Ot.refl (fun k => k = w.heap.size + 1) w5).setCell (fun _ => rfl) _) (fun k h => h), HR.out.2.2.2.2.1.set hi8 (fun j => ?_), fun e he => ?_⟩, by simp [intOf]; omega⟩
          · unfold keys
            rw [List.map_append]
            simp [or_comm]
          · rcases List.mem_append.1 he with he | he
            · have := HR.out.2.2.1 e he
              omega
            · simp at he
              subst he
              simp
        · exact ⟨⟨i + 1, O, ck, by omega, by go_num, HR.out.1, HR.out.2.1, fun e he => by have := HR.out.2.2.1 e he; omega⟩, by simp [intOf]; omega⟩
      · have hii : ¬ (i : Int) < 8 := by omega
        have HR := hide (And.intro hp hr)
        clear hp hr hlt
        go_wp2_with fail
        go_meet
        exact ⟨O, ck, HR.out.1, HR.out.2⟩
  case rest =>
    obtain ⟨O0, ck0, hp0, hr0⟩ := hcut
    have H0 := hide (And.intro hp0 hr0)
    clear hp0 hr0
    go_upto_block 2 with (fail)
    go_cut [58] (fun _ wr => ∃ O ck, Pb w wr n O ck E ∧ Pres wr (w.heap.size + 1) O)
    case first => as_aux_lemma =>
      go_wp2_with fail
      go_loopw [58] (fun v wr => ∃ (t : Nat) (O : List (Nat × Nat × Nat)) (ck : Nat), t ≤ L ∧ v = .int .i64 t ∧ Pb w wr n O ck (E.take t) ∧ Pres wr (w.heap.size + 1) O) (fun v _ => L - (intOf v).toNat)
      case atStart => exact ⟨0, O0, ck0, by omega, rfl, H0.out.1, H0.out.2⟩
      case round =>
        clear H0
        obtain ⟨t, O, ck, ht, rfl, hp, hr⟩ := hrel
        by_cases htL : t < L
        · have hti : (t : Int) < L := by omega
          have ht' : t < E.length := by omega
          obtain rfl := HE.out.addr (by omega)
          have hbl := HE.out.lt (by omega)
          have q0 := (hp.below.cell (p := ⟨b, off + t * 3, none⟩) hbl).trans (HE.out.name t ht')
          have q1 := (hp.below.cell (p := ⟨b, off + t * 3 + 1, none⟩) hbl).trans (HE.out.port t ht')
          have q2 := (hp.below.cell (p := ⟨b, off + t * 3 + 2, none⟩) hbl).trans (HE.out.ago t ht')
          have b0 := HE.out.names t ht'
          have b1 := HE.out.ports t ht'
          have b2 := HE.out.agos t ht'
          have htk : E.take (t + 1) = E.take t ++ [ea E t] := by
            rw [List.take_add_one, ea_some (List.getElem?_eq_getElem ht'), List.getElem?_eq_getElem ht']
            rfl
          generalize ea E t = e at q0 q1 q2 b0 b1 b2 htk
          have HR := hide (And.intro hp (And.intro hr htk))
          clear hp hr htk
          go_upto_region 16 with (fail)
          obtain ⟨k, hk⟩ : ∃ k, k = e.1 % 8 := ⟨_, rfl⟩
          rw [show ((e.1 : Int) % 8) = (k : Int) by omega]
          have hk8 : k < 8 := by omega
          have hki : (k : Int) < 8 := by omega
          have oa : Ot (fun _ => False) wr (wr.alloc (.cells #[.int .u8 e.1, .int .u16 e.2.1, .int .i16 e.2.2] 33)) := (Ot.refl _ _).alloc _
          have hp1 := HR.out.1.ot oa (fun _ h => h.elim)
          have hr1 := HR.out.2.1.ot oa (fun h => h)
          have d1 : (wr.alloc (.cells #[.int .u8 e.1, .int .u16 e.2.1, .int .i16 e.2.2] 33)).cell? ⟨wr.heap.size, 1, none⟩ = some (.int .u16 e.2.1) := by simp
          have d2 : (wr.alloc (.cells #[.int .u8 e.1, .int .u16 e.2.1, .int .i16 e.2.2] 33)).cell? ⟨wr.heap.size, 2, none⟩ = some (.int .i16 e.2.2) := by simp
          have hroom := HR.out.1.room
          generalize wr.alloc (.cells #[.int .u8 e.1, .int .u16 e.2.1, .int .i16 e.2.2] 33) = w1 at hp1 hr1 d1 d2 oa
          have hb14 : w.heap.size + 1 ≠ wr.heap.size := by omega
          generalize wr.heap.size = b14 at d1 d2 hroom hb14
          have HK := hide hk
          have HT := hide HR.out.2.2
          clear hk q0 q1 q2 HR b0 oa
          cases hlk : lk k O with
          | some bk =>
            obtain ⟨s, hm⟩ := mem_of_lk hlk
            have hlook := run_lookup_mine (P := Yba.prog) Yba.underlying25 keys9 hk8 hp1.low hp1.pubs (.map none) (by kernel_rfl) false
            rw [hlk] at hlook
            simp only [Bool.false_eq_true, if_false, Option.map_some, Option.getD_some, VO, sk] at hlook
            have heq := fun W => run_eql_map_nil (P := Yba.prog) W 28 43 23 (some bk) Yba.underlying28
            simp only [Option.isNone_some] at heq
            have HP := hide (And.intro hp1 (And.intro hr1 hm))
            clear hp1 hr1 hm hlk
            go_upto_region 20 with (first
              | (go_at_call 4; refine (name_at k hk8 _).mono ?_; rintro e w' ⟨rfl, rfl⟩)
              | fail)
            have hlow : ∀ x ∈ (st k (E.take t)).1, x.1 < 65536 := fun x hx => by
              obtain ⟨y, hy, h1, _⟩ := st_mem _ _ x hx
              obtain ⟨j, hj, rfl⟩ := List.getElem_of_mem (List.mem_of_mem_take hy)
              rw [← h1, ← ea_some (List.getElem?_eq_getElem hj)]
              exact HE.out.ports j hj
            have hput := HP.out.1.put HP.out.2.2 HK.out.symm
            have hmap := HP.out.1.map _ HP.out.2.2
            simp only at hmap
            generalize (st k (E.take t)).1 = lst at hlow hmap hput
            generalize (st k (E.take t)).2 = cst at hmap hput
            have HS : Hid (∀ W, Two bk (mobj pk (tv n) lst cst) (mobj pk (tv n) (upd e.2.1 e.2.2 cst lst) (updc e.2.1 cst lst)) w1 W → Two bk (mobj pk (tv n) lst cst) (mobj pk (tv n) (upd e.2.1 e.2.2 cst lst) (updc e.2.1 cst lst)) w1 W ∧ W.cell? ⟨b14, 1, none⟩ = some (.int .u16 e.2.1) ∧ W.cell? ⟨b14, 2, none⟩ = some (.int .i16 e.2.2) ∧
                (Instr.mapUpdate 28 (.map (some bk)) (.agg #[.int .u64 0, .int .u64 0, .pointer none, .int .u16 e.2.1]) (.int .i64 (IntKind.i64.wrap (n - IntKind.i64.wrap (IntKind.i64.wrap e.2.2 * 60000000000))))).run Yba.prog W = .ok () (setBlock W bk (mobj pk (tv n) (upd e.2.1 e.2.2 cst lst) (updc e.2.1 cst lst)))) := fun W h =>
              ⟨h, h.1.cellv d1 (ne_of_cell d1 hmap), h.1.cellv d2 (ne_of_cell d2 hmap), by rw [wr3 n e.2.2]; exact h.run b1 hlow⟩
            obtain ⟨s0, s1, s2, s3⟩ := unhide HS w1 ⟨Ot.refl _ _, .inl hmap⟩
            have HQ := hide hput
            clear hput hmap hlow
            obtain ⟨b20, b21⟩ := b2
            go_region_held3 (fun W => Two bk (mobj pk (tv n) lst cst) (mobj pk (tv n) (upd e.2.1 e.2.2 cst lst) (updc e.2.1 cst lst)) w1 W ∧ W.cell? ⟨b14, 1, none⟩ = some (.int .u16 e.2.1) ∧ W.cell? ⟨b14, 2, none⟩ = some (.int .i16 e.2.2) ∧
                (Instr.mapUpdate 28 (.map (some bk)) (.agg #[.int .u64 0, .int .u64 0, .pointer none, .int .u16 e.2.1]) (.int .i64 (IntKind.i64.wrap (n - IntKind.i64.wrap (IntKind.i64.wrap e.2.2 * 60000000000))))).run Yba.prog W = .ok () (setBlock W bk (mobj pk (tv n) (upd e.2.1 e.2.2 cst lst) (updc e.2.1 cst lst))))
              ((refine unhide HS _ ?_; go_split_ands; first | assumption | exact Two.drew (by assumption) | exact Two.set (by assumption)))
              (first
                | (go_at_call 5; refine (addr_at _ _).mono ?_; rintro e' w' ⟨rfl, hb⟩; go_split_ands; have hb' := Two.call (by assumption) hb; clear hb))
            have hT : Two bk (mobj pk (tv n) lst cst) (mobj pk (tv n) (upd e.2.1 e.2.2 cst lst) (updc e.2.1 cst lst)) w1 w' := by assumption
            have hbk := lt_of_block (HP.out.1.map _ HP.out.2.2)
            have hnew := HP.out.1.new _ HP.out.2.2
            simp only at hbk hnew
            have hp6 := HQ.out.ot (hT.1.both hbk (mobj pk (tv n) (upd e.2.1 e.2.2 cst lst) (updc e.2.1 cst lst))) (fun _ h => h.elim)
            have hr6 := HP.out.2.1.ot (hT.1.setBlock bk (mobj pk (tv n) (upd e.2.1 e.2.2 cst lst) (updc e.2.1 cst lst)) (fun _ => rfl)) (by omega)
            clear hT
            generalize setBlock w' bk (mobj pk (tv n) (upd e.2.1 e.2.2 cst lst) (updc e.2.1 cst lst)) = w6 at *
            rw [← HT.out] at hp6
            have hkO : k ∈ keys O := List.mem_map_of_mem HP.out.2.2
            have hc6 := (hr6 k hk8).1
            have hf6 := (hr6 k hk8).2
            have HR6 := hide (And.intro hp6 hr6)
            clear hp6 hr6
            go_wp2_with fail
            refine ⟨⟨t + 1, O, ck, by omega, by go_num, HR6.out.1.ot ((Ot.refl (fun k => k = w.heap.size + 1) w6).setCell (fun _ => rfl) _) (fun k h => h), HR6.out.2.set hk8 ?_⟩, by simp [intOf]; omega⟩
            intro j
            constructor
            · exact fun h => .inr h
            · rintro (h | h)
              · rw [h]; exact hkO
              · exact h
          | none =>
            have hkO : k ∉ keys O := fun h => by
              obtain ⟨x, hx, he⟩ := List.mem_map.1 h
              have := lk_mem hp1.wf.keys hx
              rw [he, hlk] at this
              cases this
            have hlook := run_lookup_mine (P := Yba.prog) Yba.underlying25 keys9 hk8 hp1.low hp1.pubs (.map none) (by kernel_rfl) false
            rw [hlk] at hlook
            simp only [Bool.false_eq_true, if_false, Option.map_none, Option.getD_none, sk] at hlook
            have heq := fun W => run_eql_map_nil (P := Yba.prog) W 28 43 23 none Yba.underlying28
            simp only [Option.isNone_none] at heq
            obtain ⟨e1, e2, hp2⟩ := hp1.make hk8 hkO
            have oa : Ot (fun k => k = w.heap.size) w1 (setBlock (w1.alloc (.map #[] 0)) w.heap.size (mobj sk VO (O ++ [(k, w1.heap.size, ck)]) (ck + 1))) := ((Ot.refl _ _).alloc _).setBlock _ _ (fun _ => rfl)
            have hr2 := hr1.ot oa (by omega)
            have hup := run_update_mine (P := Yba.prog) (w := w1.alloc (.map #[] 0)) Yba.underlying25 keys9 hk8 hp1.low (by rw [Below.heap_alloc _ _ _ (lt_of_block hp1.pubs)]; exact hp1.pubs) w1.heap.size
            rw [e1, e2] at hup
            have hb14n : b14 ≠ w.heap.size := ne_of_cell d1 hp1.pubs
            have f1 := oa.cellv d1 hb14n
            have f2 := oa.cellv d2 hb14n
            generalize hW : setBlock (w1.alloc (.map #[] 0)) w.heap.size (mobj sk VO (O ++ [(k, w1.heap.size, ck)]) (ck + 1)) = w2 at hup hp2 hr2 f1 f2
            have hm : (k, w1.heap.size, ck) ∈ O ++ [(k, w1.heap.size, ck)] := by simp
            obtain ⟨bk, hbk0⟩ : ∃ bk, bk = w1.heap.size := ⟨_, rfl⟩
            have HP := hide (And.intro hp2 (And.intro hr2 hm))
            have HU := hide hup
            clear hp1 hr1 hm hlk hp2 hr2 hup hW oa e1 e2 d1 d2
            go_upto_region 20 with (first
              | (go_at_call 4; refine (name_at k hk8 _).mono ?_; rintro e w' ⟨rfl, rfl⟩)
              | (at_mapUpdate; refine wpList_update_run _ rfl _ _ _ _ rfl _ HU.out ?_)
              | fail)
            clear HU
            go_frame
            rw [← hbk0] at *
            have hlow : ∀ x ∈ (st k (E.take t)).1, x.1 < 65536 := fun x hx => by
              obtain ⟨y, hy, h1, _⟩ := st_mem _ _ x hx
              obtain ⟨j, hj, rfl⟩ := List.getElem_of_mem (List.mem_of_mem_take hy)
              rw [← h1, ← ea_some (List.getElem?_eq_getElem hj)]
              exact HE.out.ports j hj
            have hput := HP.out.1.put HP.out.2.2 HK.out.symm
            have hmap := HP.out.1.map _ HP.out.2.2
            simp only at hmap
            generalize (st k (E.take t)).1 = lst at hlow hmap hput
            generalize (st k (E.take t)).2 = cst at hmap hput
            have HS : Hid (∀ W, Two bk (mobj pk (tv n) lst cst) (mobj pk (tv n) (upd e.2.1 e.2.2 cst lst) (updc e.2.1 cst lst)) w2 W → Two bk (mobj pk (tv n) lst cst) (mobj pk (tv n) (upd e.2.1 e.2.2 cst lst) (updc e.2.1 cst lst)) w2 W ∧ W.cell? ⟨b14, 1, none⟩ = some (.int .u16 e.2.1) ∧ W.cell? ⟨b14, 2, none⟩ = some (.int .i16 e.2.2) ∧
                (Instr.mapUpdate 28 (.map (some bk)) (.agg #[.int .u64 0, .int .u64 0, .pointer none, .int .u16 e.2.1]) (.int .i64 (IntKind.i64.wrap (n - IntKind.i64.wrap (IntKind.i64.wrap e.2.2 * 60000000000))))).run Yba.prog W = .ok () (setBlock W bk (mobj pk (tv n) (upd e.2.1 e.2.2 cst lst) (updc e.2.1 cst lst)))) := fun W h =>
              ⟨h, h.1.cellv f1 (ne_of_cell f1 hmap), h.1.cellv f2 (ne_of_cell f2 hmap), by rw [wr3 n e.2.2]; exact h.run b1 hlow⟩
            obtain ⟨s0, s1, s2, s3⟩ := unhide HS w2 ⟨Ot.refl _ _, .inl hmap⟩
            have HQ := hide hput
            clear hput hmap hlow
            obtain ⟨b20, b21⟩ := b2
            go_region_held3 (fun W => Two bk (mobj pk (tv n) lst cst) (mobj pk (tv n) (upd e.2.1 e.2.2 cst lst) (updc e.2.1 cst lst)) w2 W ∧ W.cell? ⟨b14, 1, none⟩ = some (.int .u16 e.2.1) ∧ W.cell? ⟨b14, 2, none⟩ = some (.int .i16 e.2.2) ∧
                (Instr.mapUpdate 28 (.map (some bk)) (.agg #[.int .u64 0, .int .u64 0, .pointer none, .int .u16 e.2.1]) (.int .i64 (IntKind.i64.wrap (n - IntKind.i64.wrap (IntKind.i64.wrap e.2.2 * 60000000000))))).run Yba.prog W = .ok () (setBlock W bk (mobj pk (tv n) (upd e.2.1 e.2.2 cst lst) (updc e.2.1 cst lst))))
              ((refine unhide HS _ ?_; go_split_ands; first | assumption | exact Two.drew (by assumption) | exact Two.set (by assumption)))
              (first
                | (go_at_call 5; refine (addr_at _ _).mono ?_; rintro e' w' ⟨rfl, hb⟩; go_split_ands; have hb' := Two.call (by assumption) hb; clear hb))
            have hT : Two bk (mobj pk (tv n) lst cst) (mobj pk (tv n) (upd e.2.1 e.2.2 cst lst) (updc e.2.1 cst lst)) w2 w' := by assumption
            have hbk := lt_of_block (HP.out.1.map _ HP.out.2.2)
            have hnew := HP.out.1.new _ HP.out.2.2
            simp only at hbk hnew
            have hp6 := HQ.out.ot (hT.1.both hbk (mobj pk (tv n) (upd e.2.1 e.2.2 cst lst) (updc e.2.1 cst lst))) (fun _ h => h.elim)
            have hr6 := HP.out.2.1.ot (hT.1.setBlock bk (mobj pk (tv n) (upd e.2.1 e.2.2 cst lst) (updc e.2.1 cst lst)) (fun _ => rfl)) (by omega)
            clear hT
            generalize setBlock w' bk (mobj pk (tv n) (upd e.2.1 e.2.2 cst lst) (updc e.2.1 cst lst)) = w6 at *
            rw [← HT.out] at hp6
            have hc6 := (hr6 k hk8).1
            have hf6 := (hr6 k hk8).2
            have HR6 := hide (And.intro hp6 hr6)
            clear hp6 hr6
            go_wp2_with fail
            refine ⟨⟨t + 1, _, _, by omega, by go_num, HR6.out.1.ot ((Ot.refl (fun k => k = w.heap.size + 1) w6).setCell (fun _ => rfl) _) (fun k h => h), HR6.out.2.set hk8 ?_⟩, by simp [intOf]; omega⟩
            intro j
            unfold keys
            rw [List.map_append]
            simp [or_comm]
        · have hti : ¬ (t : Int) < L := by omega
          have HR := hide (And.intro hp hr)
          clear hp hr
          go_wp2_with fail
          go_meet
          have hE : E.take t = E := List.take_of_length_le (by omega)
          rw [hE] at HR
          exact ⟨O, ck, HR.out.1, HR.out.2⟩
    case rest =>
      obtain ⟨O, ck, hp1, hr1⟩ := hcut
      clear H0
      obtain ⟨wB, hwB⟩ : ∃ wB, wB = wc := ⟨_, rfl⟩
      subst hwB
      have H1 := hide (And.intro hp1 hr1)
      clear hp1 hr1
      obtain ⟨i0, hi0, hz0, hz1, hz2⟩ := info_parts Yba.info9p
      go_upto_block 4 with (fail)
      go_cut [17] (fun v wr => Mo wr wB.heap.size v ((List.range 8).filter (ls nmask O)) ∧ Pb w wr n O ck E ∧ Pres wr (w.heap.size + 1) O)
      case first => as_aux_lemma =>
        go_wp2_with fail
        go_loopw [17, 18] (fun v x wr => ∃ i : Nat, i ≤ 8 ∧ x = .int .i64 i ∧ Mo wr wB.heap.size v ((List.range i).filter (ls nmask O)) ∧ Pb w wr n O ck E ∧ Pres wr (w.heap.size + 1) O ∧ wB.heap.size ≤ wr.heap.size) (fun _ x _ => 8 - (intOf x).toNat)
        case atStart => exact ⟨0, by omega, rfl, Mo.nil _ _, H1.out.1, H1.out.2, Nat.le_refl _⟩
        case round =>
          obtain ⟨i, hi8, rfl, hown, hp, hr, hsz⟩ := hrel
          by_cases hi : i < 8
          · have hii : (i : Int) < 8 := by omega
            have hc := (hr i hi).1
            have hO : ∀ e ∈ O, e.2.1 < wB.heap.size := fun e he => lt_of_block (H1.out.1.map e he)
            have hM : ((List.range i).filter (ls nmask O)).length ≤ i := Nat.le_trans (List.length_filter_le ..) (by simp)
            have hro := H1.out.1.room
            have HR := hide (And.intro hp (And.intro hr hO))
            have HF := hide (filter_range_succ (ls nmask O) i)
            have HW := hide hown
            clear hp hr hO hown
            have hend : ∀ (v' : Value) (w2 : World), w2.ownsRow wB.heap.size 9 1 v' (((List.range i).filter (ls nmask O)).length + 1) (((List.range i).filter (ls nmask O)).map sk ++ [.string (nm i)]) → (wr.alloc (.cells #[.string (nm i)] 9)).grownBy w2 (Value.ownBlock u17) → ls nmask O i = true →
                (∃ i_1 : Nat, i_1 ≤ 8 ∧ Value.int IntKind.i64 ((i : Int) + 1) = Value.int IntKind.i64 i_1 ∧ Mo w2 wB.heap.size v' ((List.range i_1).filter (ls nmask O)) ∧ Pb w w2 n O ck E ∧ Pres w2 (w.heap.size + 1) O ∧ wB.heap.size ≤ w2.heap.size) := by
              intro v' w2 ho hg hl
              have o2 : Ot (fun k => Value.ownBlock u17 = some k) wr w2 := ((Ot.refl _ _).alloc _).trans (Ot.of_grown hg)
              refine ⟨i + 1, by omega, by go_num, ?_, HR.out.1.far o2 (fun k hk => ?_), HR.out.2.1.ot o2 (fun hk => ?_), Nat.le_trans hsz o2.size⟩
              · unfold Mo
                rw [HF.out, hl]
                simpa [sk] using ho
              · have h1 := (HW.out.lt k hk).1
                exact ⟨by omega, fun e he => by have := HR.out.2.2 e he; omega⟩
              · have h1 := (HW.out.lt _ hk).1
                omega
            have HEND := hide hend
            clear hend
            have hstay : ls nmask O i = false → (∃ i_1 : Nat, i_1 ≤ 8 ∧ Value.int IntKind.i64 ((i : Int) + 1) = Value.int IntKind.i64 i_1 ∧ Mo wr wB.heap.size u17 ((List.range i_1).filter (ls nmask O)) ∧ Pb w wr n O ck E ∧ Pres wr (w.heap.size + 1) O ∧ wB.heap.size ≤ wr.heap.size) := by
              intro hl
              refine ⟨i + 1, by omega, by go_num, ?_, HR.out.1, HR.out.2.1, hsz⟩
              rw [HF.out, hl]
              simpa using HW.out
            have HST := hide hstay
            clear hstay HF
            generalize hlen : ((List.range i).filter (ls nmask O)).length = ln at hM HEND
            by_cases hb : bits BinOp.and IntKind.u8 ((nmask : Int) / 2 ^ i) 1 = 1
            · have hl : ls nmask O i = true := by simp [ls, hb]
              go_wp2_with (first
                | (go_at_call 4; refine (name_at i hi _).mono ?_; rintro e w' ⟨rfl, rfl⟩)
                | (at_builtin; refine wpList_append_own _ rfl _ _ 45 rfl wB.heap.size 9 i0 (.string ⟨#[]⟩) 1 16 Yba.underlying45 hi0 hz0 hz1 hz2 rfl (by decide) _ ln _ rfl (World.ownsRow.alloc (by have := HW.out; unfold Mo at this; rw [hlen] at this; exact this) _) ⟨wr.heap.size, 0, none⟩ 1 1 [.string (nm i)] rfl rfl (cell_one_new _ _ _) (fun u hu => by simp at hu; subst hu; rfl) (by unfold maxLen; omega) (by omega) (by simp; omega) ?_; intro v' w2 hown2 hg2 hnil2)
                | fail)
              exact ⟨HEND.out v' w2 hown2 hg2 hl, by simp [intOf]; omega⟩
            · by_cases hk : i ∈ keys O
              · have hl : ls nmask O i = true := by simp [ls, hk]
                rw [decide_eq_true hk] at hc
                go_wp2_with (first
                  | (go_at_call 4; refine (name_at i hi _).mono ?_; rintro e w' ⟨rfl, rfl⟩)
                  | (at_builtin; refine wpList_append_own _ rfl _ _ 45 rfl wB.heap.size 9 i0 (.string ⟨#[]⟩) 1 16 Yba.underlying45 hi0 hz0 hz1 hz2 rfl (by decide) _ ln _ rfl (World.ownsRow.alloc (by have := HW.out; unfold Mo at this; rw [hlen] at this; exact this) _) ⟨wr.heap.size, 0, none⟩ 1 1 [.string (nm i)] rfl rfl (cell_one_new _ _ _) (fun u hu => by simp at hu; subst hu; rfl) (by unfold maxLen; omega) (by omega) (by simp; omega) ?_; intro v' w2 hown2 hg2 hnil2)
                  | fail)
                exact ⟨HEND.out v' w2 hown2 hg2 hl, by simp [intOf]; omega⟩
              · have hl : ls nmask O i = false := by simp [ls, hk, hb]
                rw [decide_eq_false hk] at hc
                go_wp2_with fail
                exact ⟨HST.out hl, by simp [intOf]; omega⟩
          · have hii : ¬ (i : Int) < 8 := by omega
            have he : i = 8 := by omega
            subst he
            have HR := hide (And.intro hown (And.intro hp hr))
            clear hown hp hr
            go_wp2_with fail
            go_meet
            exact HR.out
      case rest =>
        obtain ⟨hM, hp2, hr2⟩ := hcut
        obtain ⟨a3, l3, c3, rfl⟩ := hM.form
        obtain ⟨D, hD, h155, h154⟩ := build106 w.heap.size l3 c3 a3
        have hports : ∀ e ∈ E, e.2.1 < 65536 := fun e he => by
          obtain ⟨j, hj, rfl⟩ := List.getElem_of_mem he
          rw [← ea_some (List.getElem?_eq_getElem hj)]
          exact HE.out.ports j hj
        have hagos : ∀ e ∈ E, -32768 ≤ e.2.2 ∧ e.2.2 ≤ 32767 := fun e he => by
          obtain ⟨j, hj, rfl⟩ := List.getElem_of_mem he
          rw [← ea_some (List.getElem?_eq_getElem hj)]
          exact HE.out.agos j hj
        have hsw := sweep_any (m := nmask) hp2 hr2 hM H1.out.1.room (fun e he => lt_of_block (H1.out.1.map e he)) h155 h154 hports hagos
        have HS := hide hsw
        obtain ⟨Z, hZ, hmk⟩ := make109 L hlen
        have HZ := hide hZ
        clear hZ
        clear hM hp2 hr2 h155 h154 hports hagos hsw
        go_upto_block 6 with (first
          | (refine wpList_build_run _ rfl _ _ rfl #[(58, .map (some w.heap.size)), (57, .slice a3 l3 c3)] (by simp [Act.eval]) _ (hD _) ?_)
          | (go_at_call 6; refine HS.out.mono ?_; rintro e w4 ⟨rfl, v4, hF⟩; have HF := hide hF; clear hF)
          | fail)
        have k0 := zero_counts w4 Z E
        have f0 := laid_marks (W := w4.alloc (.cells #[.int .i64 0, .int .i64 0, .int .i64 0, .int .i64 0, .int .i64 0, .int .i64 0, .int .i64 0, .int .i64 0] 108)) HZ.out
        have hs4 : (w4.alloc (.cells #[.int .i64 0, .int .i64 0, .int .i64 0, .int .i64 0, .int .i64 0, .int .i64 0, .int .i64 0, .int .i64 0] 108)).heap.size = w4.heap.size + 1 := by simp
        rw [hs4] at f0
        have l0 : Below w4.heap.size w4 ((w4.alloc (.cells #[.int .i64 0, .int .i64 0, .int .i64 0, .int .i64 0, .int .i64 0, .int .i64 0, .int .i64 0, .int .i64 0] 108)).alloc (.cells Z 4)) := ((Below.refl _ _).alloc (Nat.le_refl _) _).alloc (by simp) _
        generalize (w4.alloc (.cells #[.int .i64 0, .int .i64 0, .int .i64 0, .int .i64 0, .int .i64 0, .int .i64 0, .int .i64 0, .int .i64 0] 108)).alloc (.cells Z 4) = w5 at k0 f0 l0
        have H5 := hide (And.intro l0 (And.intro f0 k0))
        clear k0 f0 l0 hs4 HZ HS hD hmk H1 hi0 hz0 hz1 hz2
        generalize wc.heap.size = bc at *
        go_cut [22] (fun _ wr => Below w4.heap.size w4 wr ∧ FLs wr (w4.heap.size + 1) L (fun i => fin E i) ∧ KPs wr w4.heap.size (fun k => cnt k E L))
        case first => as_aux_lemma =>
          go_wp2_with fail
          go_loopw [22] (fun v wr => ∃ j : Nat, j ≤ L ∧ v = .int .i64 j ∧ Below w4.heap.size w4 wr ∧ FLs wr (w4.heap.size + 1) L (fun i => decide (i < j) && fin E i) ∧ KPs wr w4.heap.size (fun k => cnt k E j)) (fun v _ => L - (intOf v).toNat)
          case atStart => exact ⟨0, by omega, rfl, H5.out.1, by simpa using H5.out.2.1, H5.out.2.2⟩
          case round =>
            clear H5
            obtain ⟨j, hj, rfl, hb, hf, hk⟩ := hrel
            by_cases hjL : j < L
            · have hji : (j : Int) < L := by omega
              have hj' : j < E.length := by omega
              obtain rfl := HE.out.addr (by omega)
              have hbl := HE.out.lt (by omega)
              have fc := (hf j hjL).1
              have ff := (hf j hjL).2
              have HR := hide (And.intro hb (And.intro hf hk))
              clear hb hf hk
              have s1 : Ot (fun k => k = w4.heap.size + 1) wr (wr.setCell ⟨w4.heap.size + 1, j, none⟩ (.bool true)) := (Ot.refl (fun k => k = w4.heap.size + 1) _).setCell (fun _ => rfl) _
              have hb6 : Below w4.heap.size w4 (wr.setCell ⟨w4.heap.size + 1, j, none⟩ (.bool true)) := HR.out.1.trans (s1.below HR.out.1.size (fun k hk => by omega))
              have hk6 := HR.out.2.2.ot s1 (by omega)
              have hft := fun h : fin E j = true => fin_marks HR.out.2.1 hjL h
              have hff : fin E j = false → FLs ((wr.setCell ⟨w4.heap.size + 1, j, none⟩ (.bool true)).setCell ⟨w4.heap.size + 1, j, none⟩ (.bool false)) (w4.heap.size + 1) L (fun i => decide (i < j + 1) && fin E i) := fun h => by
                have h1 : FLs (wr.setCell ⟨w4.heap.size + 1, j, none⟩ (.bool true)) (w4.heap.size + 1) L (fun i => if i = j then true else decide (i < j) && fin E i) := HR.out.2.1.set hjL (fun x _ => rfl)
                refine h1.set hjL (fun x _ => ?_)
                by_cases hx : x = j
                · subst hx
                  simp [h]
                · have : (x < j + 1) ↔ (x < j) := by omega
                  simp only [this, if_neg hx]
              have s2 : ∀ v, Ot (fun k => k = w4.heap.size + 1) (wr.setCell ⟨w4.heap.size + 1, j, none⟩ (.bool true)) ((wr.setCell ⟨w4.heap.size + 1, j, none⟩ (.bool true)).setCell ⟨w4.heap.size + 1, j, none⟩ v) := fun v => (Ot.refl (fun k => k = w4.heap.size + 1) _).setCell (fun _ => rfl) _
              have fc6 : (wr.setCell ⟨w4.heap.size + 1, j, none⟩ (.bool true)).cell? ⟨w4.heap.size + 1, j, none⟩ = some (.bool true) := World.cell?_setCell_same _ _ _ fc
              have ff6 : (wr.setCell ⟨w4.heap.size + 1, j, none⟩ (.bool true)).frozen? ⟨w4.heap.size + 1, j, none⟩ = false := by rw [World.frozen?_setCell]; exact ff
              go_upto_block 8 with (fail)
              generalize wr.setCell ⟨w4.heap.size + 1, j, none⟩ (.bool true) = w6 at s1 hb6 hk6 hft hff s2 fc6 ff6
              have hbw : Below w.heap.size w w6 := HF.out.below.trans (hb6.mono HF.out.below.size)
              have H6 := hide (And.intro hb6 (And.intro hk6 (And.intro hft (And.intro hff s2))))
              have HW := hide hbw
              clear s1 hb6 hk6 hft hff s2 hbw fc ff HR
              go_cut [23] (fun _ wx => Below w4.heap.size w4 wx ∧ FLs wx (w4.heap.size + 1) L (fun i => decide (i < j + 1) && fin E i) ∧ KPs wx w4.heap.size (fun k => cnt k E j))
              case first =>
                go_wp2_with fail
                go_loopw [23] (fun v wx => ∃ l : Nat, j < l ∧ l ≤ L ∧ v = .int .i64 l ∧ (∃ d, wx = w6.drewN d) ∧ ∀ x, j < x → x < l → sm (ea E x) (ea E j) = false) (fun v _ => L - (intOf v).toNat)
                case atStart => exact ⟨j + 1, by omega, by omega, by go_num, ⟨0, rfl⟩, fun x h1 h2 => by omega⟩
                case round =>
                  obtain ⟨l, hl1, hl2, rfl, ⟨d, hwd⟩, hno⟩ := hrel
                  by_cases hlL : l < L
                  · have hli : (l : Int) < L := by omega
                    have q0 : wr.cell? ⟨b, off + l * 3, none⟩ = some (.int .u8 (ea E l).1) := by rw [hwd]; exact (HW.out.cell (p := ⟨b, off + l * 3, none⟩) hbl).trans (HE.out.name l (by omega))
                    have q1 : wr.cell? ⟨b, off + l * 3 + 1, none⟩ = some (.int .u16 (ea E l).2.1) := by rw [hwd]; exact (HW.out.cell (p := ⟨b, off + l * 3 + 1, none⟩) hbl).trans (HE.out.port l (by omega))
                    have p0 : wr.cell? ⟨b, off + j * 3, none⟩ = some (.int .u8 (ea E j).1) := by rw [hwd]; exact (HW.out.cell (p := ⟨b, off + j * 3, none⟩) hbl).trans (HE.out.name j hj')
                    have p1 : wr.cell? ⟨b, off + j * 3 + 1, none⟩ = some (.int .u16 (ea E j).2.1) := by rw [hwd]; exact (HW.out.cell (p := ⟨b, off + j * 3 + 1, none⟩) hbl).trans (HE.out.port j hj')
                    have fc7 : wr.cell? ⟨w4.heap.size + 1, j, none⟩ = some (.bool true) := by rw [hwd]; exact fc6
                    have ff7 : wr.frozen? ⟨w4.heap.size + 1, j, none⟩ = false := by rw [hwd]; exact ff6
                    have bn1 := HE.out.names l (by omega)
                    have bn2 := HE.out.names j hj'
                    have HN := hide (And.intro hno hwd)
                    clear hno hwd fc6 ff6
                    obtain ⟨el, hel⟩ : ∃ el, el = ea E l := ⟨_, rfl⟩
                    obtain ⟨ej, hej⟩ : ∃ ej, ej = ea E j := ⟨_, rfl⟩
                    rw [← hel] at q0 q1 bn1
                    rw [← hej] at p0 p1 bn2
                    have HEL := hide (And.intro hel hej)
                    clear hel hej
                    have hnext : ∀ q, sm el ej = false → ∃ l_1 : Nat, j < l_1 ∧ l_1 ≤ L ∧ Value.int IntKind.i64 ((l : Int) + 1) = Value.int IntKind.i64 l_1 ∧ (∃ d, wr.drewN q = w6.drewN d) ∧ ∀ x, j < x → x < l_1 → sm (ea E x) (ea E j) = false := fun q hs => by
                      refine ⟨l + 1, by omega, by omega, by go_num, ⟨d + q, by rw [HN.out.2, drewN_drewN]⟩, fun x h1 h2 => ?_⟩
                      by_cases hx : x = l
                      · rw [hx, ← HEL.out.1, ← HEL.out.2]
                        exact hs
                      · exact HN.out.1 x h1 (by omega)
                    have HX := hide hnext
                    clear hnext
                    go_upto_region 40 with (fail)
                    by_cases h8 : el.1 % 8 = ej.1 % 8
                    · have hd : ((el.1 : Int) % 8 == (ej.1 : Int) % 8) = true := by simp; omega
                      by_cases hp : el.2.1 = ej.2.1
                      · have hd2 : ((el.2.1 : Int) == (ej.2.1 : Int)) = true := by simp; omega
                        have hfn : fin E j = false := by
                          cases hf : fin E j with
                          | false => rfl
                          | true =>
                            have := (fin_iff E j).1 hf l hl1 (by omega)
                            rw [← HEL.out.1, ← HEL.out.2] at this
                            simp [sm, h8, hp] at this
                        have HFN := hide hfn
                        clear hfn
                        go_quiet (fail)
                        go_wp2_with fail
                        go_meet
                        have e6 := HN.out.2
                        rw [e6]
                        refine ⟨Below.setCell (below_drewN (below_drewN H6.out.1 d) _) (by simp) _, fun i hi => (H6.out.2.2.2.1 HFN.out) i hi, fun i hi => (H6.out.2.1.ot (H6.out.2.2.2.2 (.bool false)) (by omega)) i hi⟩
                      · have hd2 : ((el.2.1 : Int) == (ej.2.1 : Int)) = false := by simp; omega
                        have hsm : sm el ej = false := by simp [sm, hp]
                        go_quiet (fail)
                        go_wp2_with fail
                        exact ⟨HX.out _ hsm, by simp [intOf]; omega⟩
                    · have hd : ((el.1 : Int) % 8 == (ej.1 : Int) % 8) = false := by simp; omega
                      have hsm : sm el ej = false := by simp [sm, h8]
                      go_quiet (fail)
                      go_wp2_with fail
                      exact ⟨HX.out _ hsm, by simp [intOf]; omega⟩
                  · have hli : ¬ (l : Int) < L := by omega
                    have hfn : fin E j = true := (fin_iff E j).2 (fun x h1 h2 => hno x h1 (by omega))
                    have HN := hide (And.intro hwd hfn)
                    clear hno hwd hfn fc6 ff6
                    go_wp2_with fail
                    go_meet
                    rw [HN.out.1]
                    exact ⟨below_drewN H6.out.1 d, (H6.out.2.2.1 HN.out.2).drewN d, H6.out.2.1.drewN d⟩
              case rest =>
                obtain ⟨hb7, hf7, hk7⟩ := hcut
                have fj := (hf7 j hjL).1
                simp only [Nat.lt_succ_self, decide_true, Bool.true_and] at fj
                have hbw : Below w.heap.size w wc := HF.out.below.trans (hb7.mono HF.out.below.size)
                have p0 := (hbw.cell (p := ⟨b, off + j * 3, none⟩) hbl).trans (HE.out.name j hj')
                have p2 := (hbw.cell (p := ⟨b, off + j * 3 + 2, none⟩) hbl).trans (HE.out.ago j hj')
                have bn := HE.out.names j hj'
                have kj := hk7 ((ea E j).1 % 8) (by omega)
                have kc := kj.1
                have kf := kj.2
                have hcl := cnt_le ((ea E j).1 % 8) E j
                have hcs := fun k => cnt_succ k E j
                have H7 := hide (And.intro hb7 (And.intro hf7 (And.intro hk7 hcs)))
                clear hb7 hf7 hk7 kj H6 HW fc6 ff6 hbw hcs
                generalize hej : ea E j = ej at p0 p2 bn kc kf hcl H7
                generalize hcn : cnt (ej.1 % 8) E j = cn at kc hcl
                generalize hfn : fin E j = fn at fj H7
                have hsame : (∀ k, cnt k E (j + 1) = cnt k E j) → (∃ j_1 : Nat, j_1 ≤ L ∧ Value.int IntKind.i64 ((j : Int) + 1) = Value.int IntKind.i64 j_1 ∧ Below w4.heap.size w4 wc ∧ FLs wc (w4.heap.size + 1) L (fun i => decide (i < j_1) && fin E i) ∧ KPs wc w4.heap.size (fun k => cnt k E j_1)) := fun h =>
                  ⟨j + 1, by omega, by go_num, H7.out.1, H7.out.2.1, fun k hk => by
                    show wc.cell? _ = some (Value.int .i64 ((cnt k E (j + 1) : Nat) : Int)) ∧ _
                    rw [h k]
                    exact H7.out.2.2.1 k hk⟩
                have HSM := hide hsame
                clear hsame
                cases fn with
                | true =>
                  by_cases h3 : ej.2.2 < 3
                  · go_wp2_with fail
                    refine ⟨⟨j + 1, by omega, by go_num, Below.setCell H7.out.1 (Nat.le_refl _) _, H7.out.2.1.ot ((Ot.refl (fun k => k = w4.heap.size) wc).setCell (fun _ => rfl) _) (by omega), ?_⟩, by simp [intOf]; omega⟩
                    rw [show ((cn : Int) + 1) = ((cn + 1 : Nat) : Int) by omega]
                    refine H7.out.2.2.1.set (by omega) (fun x _ => ?_)
                    rw [H7.out.2.2.2 x]
                    by_cases hx : x = ej.1 % 8
                    · rw [if_pos hx, if_pos ⟨by simp [h3], hx.symm⟩, hx, hcn]
                    · rw [if_neg hx, if_neg (fun h => hx h.2.symm)]
                      omega
                  · have hc0 : ∀ k, cnt k E (j + 1) = cnt k E j := fun k => by
                      rw [H7.out.2.2.2 k, if_neg (fun h => h3 (by simpa using h.1))]
                      omega
                    have HC0 := hide hc0
                    clear hc0
                    go_wp2_with fail
                    exact ⟨HSM.out HC0.out, by simp [intOf]; omega⟩
                | false =>
                  have hc0 : ∀ k, cnt k E (j + 1) = cnt k E j := fun k => by
                    rw [H7.out.2.2.2 k, if_neg (fun h => by simp at h)]
                    omega
                  have HC0 := hide hc0
                  clear hc0
                  go_wp2_with fail
                  exact ⟨HSM.out HC0.out, by simp [intOf]; omega⟩
            · have hji : ¬ (j : Int) < L := by omega
              have he : j = L := by omega
              subst he
              have HR := hide (And.intro hb (And.intro hf hk))
              clear hb hf hk
              go_wp2_with fail
              go_meet
              refine ⟨HR.out.1, fun i hi => ?_, HR.out.2.2⟩
              have := HR.out.2.1 i hi
              simpa [hi] using this
        case rest =>
          obtain ⟨hb8, hf8, hk8⟩ := hcut
          clear H5
          obtain ⟨w8, hw8⟩ : ∃ w8, w8 = wc := ⟨_, rfl⟩
          subst hw8
          have hF8 := HF.out.kept hb8
          have HF8 := hide hF8
          have H8 := hide (And.intro hb8 (And.intro hf8 hk8))
          have hgc : w4.heap.size < w8.heap.size := World.block_lt_of_cell? _ _ (hk8 0 (by omega)).1
          clear hb8 hf8 hk8 hF8
          generalize w4.heap.size = q4 at *
          go_upto_block 10 with (fail)
          go_cut [24] (fun v wr => v = .int .i64 (((List.range 8).filter (lv O E)).length : Nat) ∧ ∃ d, wr = w8.drewN d)
          case first => as_aux_lemma =>
            go_wp2_with fail
            go_loopw [24, 25] (fun v x wr => ∃ i : Nat, i ≤ 8 ∧ x = .int .i64 i ∧ v = .int .i64 (((List.range i).filter (lv O E)).length : Nat) ∧ ∃ d, wr = w8.drewN d) (fun _ x _ => 8 - (intOf x).toNat)
            case atStart => exact ⟨0, by omega, rfl, rfl, 0, rfl⟩
            case round =>
              obtain ⟨i, hi8, rfl, rfl, d, hwd⟩ := hrel
              by_cases hi : i < 8
              · have hii : (i : Int) < 8 := by omega
                have hle : ((List.range i).filter (lv O E)).length ≤ i := Nat.le_trans (List.length_filter_le ..) (by simp)
                have hsucc := filter_range_succ (lv O E) i
                have hk := cnt_kp i E
                rw [hL] at hk
                have hcnt := cnt_le i E L
                have facts : ∀ W : World, W.heap = w8.heap → W.cell? ⟨bc, 155, none⟩ = some (.map (some w.heap.size)) ∧ W.cell? ⟨w.heap.size + 1, i, none⟩ = some (.bool (decide (i ∈ keys O))) ∧ W.cell? ⟨q4, i, none⟩ = some (.int .i64 (cnt i E L)) := fun W hW => by
                  have e : ∀ p, W.cell? p = w8.cell? p := fun p => World.cell?_of_block (by rw [hW])
                  rw [e, e, e]
                  exact ⟨HF8.out.ptr, (HF8.out.pres i hi).1, (H8.out.2.2 i hi).1⟩
                have hlook : ∀ (W : World), W.heap = w8.heap → ∀ q, (Instr.lookup 25 (.map (some w.heap.size)) (.string (nm i)) true).run Yba.prog (W.drewN q) = .ok (.tuple #[((lk i (O.filter fun e => !(kp (st e.1 E).1).isEmpty)).map VO).getD (.map none), .bool (lk i (O.filter fun e => !(kp (st e.1 E).1).isEmpty)).isSome]) (W.drewN q) := fun W hW q => by
                  have := run_lookup_mine (P := Yba.prog) (w := W.drewN q) (V := VO) Yba.underlying25 keys9 hi (fun e he => HF8.out.low e (List.mem_filter.1 he).1) (b := w.heap.size) (c := ck) (by show W.heap[_]? = _; rw [hW]; exact HF8.out.pubs) (.map none) (by kernel_rfl) true
                  simpa [sk] using this
                have hwh : wr.heap = w8.heap := by rw [hwd]; rfl
                obtain ⟨f1, f2, f3⟩ := facts wr hwh
                have hlk := hlook wr hwh
                have HFA := hide facts
                have HWD := hide (And.intro hwd hwh)
                have HSU := hide hsucc
                clear facts hlook hwd hwh hsucc
                obtain ⟨hla, hlb⟩ := lk_live (O := O) (E := E) HF8.out.wf (i := i)
                cases hlv : lv O E i with
                | true =>
                  obtain ⟨bi, s, hm, hb⟩ := hla hlv
                  rw [hb] at hlk
                  simp only [Option.map_some, Option.getD_some, Option.isSome_some, VO] at hlk
                  clear hla hlb
                  go_upto_region 48 with (fail)
                  go_quiet ((go_at_call 4; refine Calls.quiet_of_same (name_any i hi _)))
                  obtain ⟨wz, hwz⟩ : ∃ wz, wz = wr.drewN nq := ⟨_, rfl⟩
                  rw [← hwz]
                  have hzh : wz.heap = w8.heap := by rw [hwz]; exact HWD.out.2
                  have hzd : ∃ d, wz = w8.drewN d := ⟨d + nq, by rw [hwz, HWD.out.1, drewN_drewN]⟩
                  obtain ⟨g1, g2, g3⟩ := HFA.out wz hzh
                  have hlv2 := hlv
                  simp only [lv, Bool.and_eq_true, decide_eq_true_eq] at hlv2
                  rw [decide_eq_true hlv2.1] at g2
                  have hlen := fun q ty => run_len_mine (P := Yba.prog) (w := wz.drewN q) (ty := ty) Yba.underlying28 (by show wz.heap[_]? = _; rw [hzh]; exact HF8.out.map _ hm)
                  simp only at hlen
                  rw [← hk] at hlen
                  have hpos : 0 < cnt i E L := by
                    rw [hk]
                    cases h : kp (st i E).1 with
                    | nil => rw [h] at hlv2; simp at hlv2
                    | cons _ _ => simp
                  have hposi : (0 : Int) < (cnt i E L : Nat) := by omega
                  rw [hlv] at HSU
                  have HZD := hide hzd
                  clear hlk f1 f2 f3 hwz hzh hzd hlv2 hk hb hm HFA HWD
                  generalize cnt i E L = cn at *
                  go_upto_region 51 with (fail)
                  go_quiet (fail)
                  go_wp2_with fail
                  obtain ⟨d2, hd2⟩ := HZD.out
                  refine ⟨⟨i + 1, by omega, by go_num, ?_, d2 + nq, by rw [hd2, drewN_drewN]⟩, by simp [intOf]; omega⟩
                  rw [HSU.out, if_pos rfl, List.length_append, List.length_singleton]
                  go_num
                | false =>
                  rw [hlb hlv] at hlk
                  simp only [Option.map_none, Option.getD_none, Option.isSome_none] at hlk
                  clear hla hlb
                  go_upto_region 48 with (fail)
                  go_quiet ((go_at_call 4; refine Calls.quiet_of_same (name_any i hi _)))
                  obtain ⟨wz, hwz⟩ : ∃ wz, wz = wr.drewN nq := ⟨_, rfl⟩
                  rw [← hwz]
                  have hzh : wz.heap = w8.heap := by rw [hwz]; exact HWD.out.2
                  have hzd : ∃ d, wz = w8.drewN d := ⟨d + nq, by rw [hwz, HWD.out.1, drewN_drewN]⟩
                  obtain ⟨g1, g2, g3⟩ := HFA.out wz hzh
                  rw [hlv] at HSU
                  have hend : ∃ i_1 : Nat, i_1 ≤ 8 ∧ Value.int IntKind.i64 ((i : Int) + 1) = Value.int IntKind.i64 i_1 ∧ Value.int IntKind.i64 (((List.range i).filter (lv O E)).length : Nat) = Value.int IntKind.i64 (((List.range i_1).filter (lv O E)).length : Nat) ∧ ∃ d, wz = w8.drewN d := by
                    refine ⟨i + 1, by omega, by go_num, ?_, hzd⟩
                    rw [HSU.out, if_neg (by simp), List.append_nil]
                  have HEND := hide hend
                  by_cases hko : i ∈ keys O
                  · have hc0 : cnt i E L = 0 := by
                      rw [hk]
                      simp only [lv, hko, decide_true, Bool.true_and, Bool.not_eq_false'] at hlv
                      rw [List.isEmpty_iff.1 hlv]
                      rfl
                    rw [decide_eq_true hko] at g2
                    rw [hc0] at g3
                    clear hlk f1 f2 f3 hwz hzh hzd hk HFA HWD hend hc0 hcnt
                    go_wp2_with fail
                    exact ⟨HEND.out, by simp [intOf]; omega⟩
                  · rw [decide_eq_false hko] at g2
                    clear hlk f1 f2 f3 hwz hzh hzd hk HFA HWD hend hcnt
                    go_wp2_with fail
                    exact ⟨HEND.out, by simp [intOf]; omega⟩
              · have hii : ¬ (i : Int) < 8 := by omega
                have he : i = 8 := by omega
                subst he
                have HWD := hide hwd
                clear hwd
                go_wp2_with fail
                go_meet
                exact ⟨rfl, d, HWD.out⟩
          case rest =>
            obtain ⟨rfl, d9, hw9⟩ := hcut
            obtain ⟨w9, hw9e⟩ : ∃ w9, w9 = wc := ⟨_, rfl⟩
            subst hw9e
            have hF9 := HF8.out.kept (below_drewN (Below.refl _ w8) d9)
            rw [← hw9] at hF9
            have h9 : Below q4 w4 w9 ∧ FLs w9 (q4 + 1) L (fun i => fin E i) ∧ KPs w9 q4 (fun k => cnt k E L) := by
              rw [hw9]
              exact ⟨below_drewN H8.out.1 d9, H8.out.2.1.drewN d9, H8.out.2.2.drewN d9⟩
            have hptr := hF9.ptr
            have hlen9 := run_len_mine (P := Yba.prog) (ty := 3) Yba.underlying25 hF9.pubs
            rw [left_len hF9.wf hF9.low] at hlen9
            have HF9 := hide hF9
            have H9 := hide h9
            clear hw9 hF9 h9 HF8 H8
            generalize ((List.range 8).filter (lv O E)).length = lft at hlen9
            go_upto_block 12 with (fail)
            clear hlen9
            go_cut [28] (fun _ wr => Below w9.heap.size w9 wr)
            case first => as_aux_lemma =>
              go_wp2_with fail
              go_loopw [28] (fun v wr => ∃ j : Nat, j ≤ L ∧ v = .int .i64 j ∧ Below w9.heap.size w9 wr) (fun v _ => L - (intOf v).toNat)
              case atStart => exact ⟨0, by omega, rfl, Below.refl _ _⟩
              case round =>
                obtain ⟨j, hj, rfl, hb⟩ := hrel
                by_cases hjL : j < L
                · have hji : (j : Int) < L := by omega
                  have hj' : j < E.length := by omega
                  obtain rfl := HE.out.addr (by omega)
                  have hbl := HE.out.lt (by omega)
                  have hF := HF9.out.kept hb
                  have ho := Ot.of_below (fun _ => False) hb
                  have fj := (H9.out.2.1.ot ho (fun h => h) j hjL).1
                  have hkc := fun k hk => (H9.out.2.2.ot ho (fun h => h) k hk).1
                  have bn := HE.out.names j hj'
                  have bp := HE.out.ports j hj'
                  obtain ⟨ba0, ba1⟩ := HE.out.agos j hj'
                  have kc := hkc ((ea E j).1 % 8) (by omega)
                  have hbw := hF.below
                  have p0 := (hbw.cell (p := ⟨b, off + j * 3, none⟩) hbl).trans (HE.out.name j hj')
                  have p1 := (hbw.cell (p := ⟨b, off + j * 3 + 1, none⟩) hbl).trans (HE.out.port j hj')
                  have p2 := (hbw.cell (p := ⟨b, off + j * 3 + 2, none⟩) hbl).trans (HE.out.ago j hj')
                  have hptr2 := hF.ptr
                  have hall := hF.all _ (ea_mem hj')
                  have hfound := fun h => last_found (es := E) hj' h
                  have hcl := cnt_le ((ea E j).1 % 8) E L
                  have hkp := cnt_kp ((ea E j).1 % 8) E
                  rw [hL] at hkp
                  have hnext : ∀ W, Below wr.heap.size wr W → ∃ j_1 : Nat, j_1 ≤ L ∧ Value.int IntKind.i64 ((j : Int) + 1) = Value.int IntKind.i64 j_1 ∧ Below w9.heap.size w9 W := fun W hW => ⟨j + 1, by omega, by go_num, below_next hb hW⟩
                  have HNX := hide hnext
                  have HX := hide (And.intro hF (And.intro hall (And.intro hfound hkp)))
                  clear hb hF ho hkc hbw hall hfound hkp hnext
                  generalize ea E j = e at *
                  generalize fin E j = fn at fj HX
                  cases fn with
                  | false =>
                    go_wp2_with fail
                    exact ⟨HNX.out _ (Below.refl _ _), by simp [intOf]; omega⟩
                  | true =>
                    obtain ⟨k, hk⟩ : ∃ k, k = e.1 % 8 := ⟨_, rfl⟩
                    rw [← hk] at kc hcl
                    by_cases hc0 : cnt k E L = 0
                    · rw [hc0] at kc
                      have kc' : wr.cell? ⟨q4, e.1 % 8, none⟩ = some (.int .i64 0) := by rw [← hk]; exact kc
                      clear kc hk
                      go_wp2_with fail
                      exact ⟨HNX.out _ (Below.refl _ _), by simp [intOf]; omega⟩
                    · have kc' : wr.cell? ⟨q4, e.1 % 8, none⟩ = some (.int .i64 (cnt k E L : Nat)) := by rw [← hk]; exact kc
                      have hk8 : k < 8 := by omega
                      have HK := hide hk
                      clear kc hk
                      have hc0i : ¬ ((cnt k E L : Nat) : Int) = 0 := by omega
                      have HC := hide hc0
                      clear hc0
                      go_upto_region 63 with (fail)
                      rw [show ((e.1 : Int) % 8) = (k : Int) by have := HK.out; omega]
                      have hkO : k ∈ keys O := by rw [HK.out]; exact HX.out.2.1
                      have hlv : lv O E k = true := by
                        have h1 : cnt k E L = (kp (st k E).1).length := by rw [HK.out]; exact HX.out.2.2.2
                        have h2 : (kp (st k E).1).isEmpty = false := by
                          cases h : kp (st k E).1 with
                          | nil => rw [h] at h1; exact (HC.out h1).elim
                          | cons _ _ => rfl
                        simp [lv, hkO, h2]
                      obtain ⟨bk, s, hm, hlk⟩ := (lk_live (O := O) (E := E) HX.out.1.wf (i := k)).1 hlv
                      have hfd : lk e.2.1 (kp (st k E).1) = if e.2.2 < 3 then some e.2.2 else none := by
                        rw [HK.out]
                        exact HX.out.2.2.1 rfl
                      have hlow : ∀ x ∈ kp (st k E).1, x.1 < 65536 := fun x hx => by
                        obtain ⟨y, hy, h1, _⟩ := st_mem _ _ x (List.mem_filter.1 hx).1
                        obtain ⟨i, hi, rfl⟩ := List.getElem_of_mem hy
                        rw [← h1, ← ea_some (List.getElem?_eq_getElem hi)]
                        exact HE.out.ports i hi
                      have HS : Hid (∀ W, Below wr.heap.size wr W → Below wr.heap.size wr W ∧ W.cell? ⟨bc, 155, none⟩ = some (.map (some w.heap.size)) ∧ W.cell? ⟨b, off + j * 3 + 1, none⟩ = some (.int .u16 e.2.1) ∧
                          (Instr.lookup 25 (.map (some w.heap.size)) (.string (nm k)) false).run Yba.prog W = .ok (.map (some bk)) W ∧
                          (Instr.lookup 28 (.map (some bk)) (.agg #[.int .u64 0, .int .u64 0, .pointer none, .int .u16 e.2.1]) true).run Yba.prog W = .ok (.tuple #[((if e.2.2 < 3 then some e.2.2 else none).map (tv n)).getD (.int .i64 0), .bool (if e.2.2 < 3 then some e.2.2 else none).isSome]) W) := fun W hW => by
                        have ho := Ot.of_below (fun _ => False) hW
                        refine ⟨hW, ho.cellv hptr2 (fun h => h), ho.cellv p1 (fun h => h), ?_, ?_⟩
                        · have := run_lookup_mine (P := Yba.prog) (w := W) (V := VO) Yba.underlying25 keys9 hk8 (fun e he => HX.out.1.low e (List.mem_filter.1 he).1) (ho.obj HX.out.1.pubs (fun h => h)) (.map none) (by kernel_rfl) false
                          rw [hlk] at this
                          exact this
                        · have := run_lookup_mine (P := Yba.prog) (w := W) (V := tv n) Yba.underlying28 keys43 bp hlow (ho.obj (HX.out.1.map _ hm) (fun h => h)) (.int .i64 0) (by kernel_rfl) true
                          rw [hfd] at this
                          exact this
                      obtain ⟨s0, s1, s2, s3, s4⟩ := unhide HS wr (Below.refl _ _)
                      have HM := hide hm
                      clear hm hlk hfd hlow hlv hkO
                      go_region_held3 (fun W => Below wr.heap.size wr W ∧ W.cell? ⟨bc, 155, none⟩ = some (.map (some w.heap.size)) ∧ W.cell? ⟨b, off + j * 3 + 1, none⟩ = some (.int .u16 e.2.1) ∧
                          (Instr.lookup 25 (.map (some w.heap.size)) (.string (nm k)) false).run Yba.prog W = .ok (.map (some bk)) W ∧
                          (Instr.lookup 28 (.map (some bk)) (.agg #[.int .u64 0, .int .u64 0, .pointer none, .int .u16 e.2.1]) true).run Yba.prog W = .ok (.tuple #[((if e.2.2 < 3 then some e.2.2 else none).map (tv n)).getD (.int .i64 0), .bool (if e.2.2 < 3 then some e.2.2 else none).isSome]) W)
                        ((refine unhide HS _ ?_; go_split_ands; first | assumption | exact Below.drew (by assumption)))
                        (first
                          | (go_at_call 4; refine (name_at k hk8 _).mono ?_; rintro e' w' ⟨rfl, rfl⟩)
                          | (go_at_call 5; refine (addr_at _ _).mono ?_; rintro e' w' ⟨rfl, hb⟩; go_split_ands; have hb' : Below wr.heap.size wr w' := below_next (by assumption) hb; clear hb))
                      all_goals
                        have hB : Below wr.heap.size wr w' := by assumption
                        have p2' : w'.cell? ⟨b, off + j * 3 + 2, none⟩ = some (.int .i16 e.2.2) := (hB.cell (World.block_lt_of_cell? _ _ p2)).trans p2
                        have HB := hide hB
                        clear hB
                        by_cases h3 : e.2.2 < 3
                        · simp only [if_pos h3, Option.getD_some, Option.isSome_some, tv]
                          go_wp2_with fail
                          exact ⟨HNX.out _ HB.out, by simp [intOf]; omega⟩
                        · simp only [if_neg h3, Option.getD_none, Option.isSome_none]
                          go_wp2_with fail
                          exact ⟨HNX.out _ HB.out, by simp [intOf]; omega⟩
                · have hji : ¬ (j : Int) < L := by omega
                  have HB := hide hb
                  clear hb
                  go_wp2_with fail
                  go_meet
                  exact HB.out
            case rest =>
              have hF9 := HF9.out.kept hcut
              obtain ⟨w10, hw10⟩ : ∃ w10, w10 = wc := ⟨_, rfl⟩
              subst hw10
              have hk9 := H9.out.2.2.ot (Ot.of_below (fun _ => False) hcut) (fun h => h)
              have HFA := hide (And.intro hF9 hk9)
              clear hF9 hk9 hcut HF9 H9
              obtain ⟨i0, hi0, hz0, hz1, hz2⟩ := info_parts Yba.info9p
              go_upto_block 14 with (fail)
              go_cut [32] (fun v wr => Mo wr w10.heap.size v (NF nmask O E) ∧ Below w10.heap.size w10 wr)
              case first => as_aux_lemma =>
                go_wp2_with fail
                go_loopw [32, 33] (fun v x wr => ∃ i : Nat, i ≤ 8 ∧ x = .int .i64 i ∧ Mo wr w10.heap.size v ((List.range i).filter (wt nmask O E)) ∧ Below w10.heap.size w10 wr) (fun _ x _ => 8 - (intOf x).toNat)
                case atStart => exact ⟨0, by omega, rfl, Mo.nil _ _, Below.refl _ _⟩
                case round =>
                  obtain ⟨i, hi8, rfl, hown, hb⟩ := hrel
                  by_cases hi : i < 8
                  · have hii : (i : Int) < 8 := by omega
                    have hF := HFA.out.1.kept hb
                    have hc := (hF.pres i hi).1
                    have hq := (HFA.out.2.ot (Ot.of_below (fun _ => False) hb) (fun h => h) i hi).1
                    have hM : ((List.range i).filter (wt nmask O E)).length ≤ i := Nat.le_trans (List.length_filter_le ..) (by simp)
                    have hck := cnt_kp i E
                    rw [hL] at hck
                    have hcl := cnt_le i E L
                    have HR := hide hb
                    have hsz := hb.size
                    have HSU := hide (filter_range_succ (wt nmask O E) i)
                    have HW := hide hown
                    clear hF hb hown
                    have hend : ∀ (v' : Value) (w2 : World), w2.ownsRow w10.heap.size 9 1 v' (((List.range i).filter (wt nmask O E)).length + 1) (((List.range i).filter (wt nmask O E)).map sk ++ [.string (nm i)]) → (wr.alloc (.cells #[.string (nm i)] 9)).grownBy w2 (Value.ownBlock u32) → wt nmask O E i = true →
                        (∃ i_1 : Nat, i_1 ≤ 8 ∧ Value.int IntKind.i64 ((i : Int) + 1) = Value.int IntKind.i64 i_1 ∧ Mo w2 w10.heap.size v' ((List.range i_1).filter (wt nmask O E)) ∧ Below w10.heap.size w10 w2) := by
                      intro v' w2 ho hg hl
                      refine ⟨i + 1, by omega, by go_num, ?_, (HR.out.alloc HR.out.size _).grown hg (by simp; omega) (fun j hj => (HW.out.lt j hj).1)⟩
                      unfold Mo
                      rw [HSU.out, hl]
                      simpa [sk] using ho
                    have HEND := hide hend
                    clear hend
                    have hstay : wt nmask O E i = false → (∃ i_1 : Nat, i_1 ≤ 8 ∧ Value.int IntKind.i64 ((i : Int) + 1) = Value.int IntKind.i64 i_1 ∧ Mo wr w10.heap.size u32 ((List.range i_1).filter (wt nmask O E)) ∧ Below w10.heap.size w10 wr) := by
                      intro hl
                      refine ⟨i + 1, by omega, by go_num, ?_, HR.out⟩
                      rw [HSU.out, hl]
                      simpa using HW.out
                    have HST := hide hstay
                    clear hstay HSU
                    generalize hlen : ((List.range i).filter (wt nmask O E)).length = ln at hM HEND
                    have hgoal : ∀ (bt pr : Bool) (kn : Nat), (decide (bits BinOp.and IntKind.u8 ((nmask : Int) / 2 ^ i) 1 = 1) = bt) → decide (i ∈ keys O) = pr → cnt i E L = kn → wt nmask O E i = ((bt || pr) && !(pr && decide (kn = 0))) := by
                      intro bt pr kn h1 h2 h3
                      have h4 : decide (kn = 0) = (kp (st i E).1).isEmpty := by
                        rw [← h3, hck]
                        cases kp (st i E).1 <;> simp
                      simp [wt, ls, h1, h2, h4]
                    have HG := hide hgoal
                    clear hgoal hck
                    generalize hkn : cnt i E L = kn at hq hcl HG
                    by_cases hb : bits BinOp.and IntKind.u8 ((nmask : Int) / 2 ^ i) 1 = 1
                    · by_cases hk : i ∈ keys O
                      · rw [decide_eq_true hk] at hc
                        by_cases hz : kn = 0
                        · have hw : wt nmask O E i = false := by rw [HG.out true true kn (decide_eq_true hb) (decide_eq_true hk) rfl]; simp [hz]
                          have HWt := hide hw
                          clear hw
                          subst hz
                          go_wp2_with fail
                          exact ⟨HST.out HWt.out, by simp [intOf]; omega⟩
                        · have hw : wt nmask O E i = true := by rw [HG.out true true kn (decide_eq_true hb) (decide_eq_true hk) rfl]; simp [hz]
                          have HWt := hide hw
                          have hzi : (((kn : Nat) : Int) == 0) = false := by simp; omega
                          clear hw
                          go_wp2_with (first
                            | (go_at_call 4; refine (name_at i hi _).mono ?_; rintro e w' ⟨rfl, rfl⟩)
                            | (at_builtin; refine wpList_append_own _ rfl _ _ 45 rfl w10.heap.size 9 i0 (.string ⟨#[]⟩) 1 16 Yba.underlying45 hi0 hz0 hz1 hz2 rfl (by decide) _ ln _ rfl (World.ownsRow.alloc (by have := HW.out; unfold Mo at this; rw [hlen] at this; exact this) _) ⟨wr.heap.size, 0, none⟩ 1 1 [.string (nm i)] rfl rfl (cell_one_new _ _ _) (fun u hu => by simp at hu; subst hu; rfl) (by unfold maxLen; omega) (by omega) (by simp; omega) ?_; intro v' w2 hown2 hg2 hnil2)
                            | fail)
                          exact ⟨HEND.out v' w2 hown2 hg2 HWt.out, by simp [intOf]; omega⟩
                      · rw [decide_eq_false hk] at hc
                        have hw : wt nmask O E i = true := by rw [HG.out true false kn (decide_eq_true hb) (decide_eq_false hk) rfl]; simp
                        have HWt := hide hw
                        clear hw
                        go_wp2_with (first
                          | (go_at_call 4; refine (name_at i hi _).mono ?_; rintro e w' ⟨rfl, rfl⟩)
                          | (at_builtin; refine wpList_append_own _ rfl _ _ 45 rfl w10.heap.size 9 i0 (.string ⟨#[]⟩) 1 16 Yba.underlying45 hi0 hz0 hz1 hz2 rfl (by decide) _ ln _ rfl (World.ownsRow.alloc (by have := HW.out; unfold Mo at this; rw [hlen] at this; exact this) _) ⟨wr.heap.size, 0, none⟩ 1 1 [.string (nm i)] rfl rfl (cell_one_new _ _ _) (fun u hu => by simp at hu; subst hu; rfl) (by unfold maxLen; omega) (by omega) (by simp; omega) ?_; intro v' w2 hown2 hg2 hnil2)
                          | fail)
                        exact ⟨HEND.out v' w2 hown2 hg2 HWt.out, by simp [intOf]; omega⟩
                    · by_cases hk : i ∈ keys O
                      · rw [decide_eq_true hk] at hc
                        by_cases hz : kn = 0
                        · have hw : wt nmask O E i = false := by rw [HG.out false true kn (decide_eq_false hb) (decide_eq_true hk) rfl]; simp [hz]
                          have HWt := hide hw
                          clear hw
                          subst hz
                          go_wp2_with fail
                          exact ⟨HST.out HWt.out, by simp [intOf]; omega⟩
                        · have hw : wt nmask O E i = true := by rw [HG.out false true kn (decide_eq_false hb) (decide_eq_true hk) rfl]; simp [hz]
                          have HWt := hide hw
                          have hzi : (((kn : Nat) : Int) == 0) = false := by simp; omega
                          clear hw
                          go_wp2_with (first
                            | (go_at_call 4; refine (name_at i hi _).mono ?_; rintro e w' ⟨rfl, rfl⟩)
                            | (at_builtin; refine wpList_append_own _ rfl _ _ 45 rfl w10.heap.size 9 i0 (.string ⟨#[]⟩) 1 16 Yba.underlying45 hi0 hz0 hz1 hz2 rfl (by decide) _ ln _ rfl (World.ownsRow.alloc (by have := HW.out; unfold Mo at this; rw [hlen] at this; exact this) _) ⟨wr.heap.size, 0, none⟩ 1 1 [.string (nm i)] rfl rfl (cell_one_new _ _ _) (fun u hu => by simp at hu; subst hu; rfl) (by unfold maxLen; omega) (by omega) (by simp; omega) ?_; intro v' w2 hown2 hg2 hnil2)
                            | fail)
                          exact ⟨HEND.out v' w2 hown2 hg2 HWt.out, by simp [intOf]; omega⟩
                      · rw [decide_eq_false hk] at hc
                        have hw : wt nmask O E i = false := by rw [HG.out false false kn (decide_eq_false hb) (decide_eq_false hk) rfl]; simp
                        have HWt := hide hw
                        clear hw
                        go_wp2_with fail
                        exact ⟨HST.out HWt.out, by simp [intOf]; omega⟩
                  · have hii : ¬ (i : Int) < 8 := by omega
                    have he : i = 8 := by omega
                    subst he
                    have HR := hide (And.intro hown hb)
                    clear hown hb
                    go_wp2_with fail
                    go_meet
                    rw [NF_wt]
                    exact HR.out
              case rest =>
                obtain ⟨hMo, hb⟩ := hcut
                have hF := HFA.out.1.kept hb
                have hnm := hF.names
                have hptr := hF.ptr
                have heq := equal_names hF hMo
                have hbw := hF.below
                have HQ := hide (And.intro heq hbw)
                clear hMo hb hF heq hbw
                go_wp2_with (first
                  | (go_at_call 7; refine HQ.out.1.mono ?_; rintro e w' ⟨rfl, hbe⟩)
                  | fail)
                go_ret
                exact ⟨rfl, HQ.out.2.trans (hbe.mono HQ.out.2.size)⟩

end Go.Proofs.Ybulkdjcm
