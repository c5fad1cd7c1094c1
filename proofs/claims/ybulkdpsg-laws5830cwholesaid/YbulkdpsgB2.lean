/- S5830C: byArrival: the walk. -/
import Derived.Test.YbulkdpsgB1
import Derived.Deep.LoopGhost
import Derived.Deep.DeepCutAuto
import Derived.Deep.AppendLies
namespace Go.Proofs.Ybulkdpsg
open Go Go.RowKit Go.Sort Go.Proofs Go.Lib
set_option linter.unusedVariables false
set_option linter.unusedSimpArgs false
theorem info9 : (Yba.prog.info? 9).map (fun i => (i.zero, i.size, i.bytes)) = some (some (.string ⟨#[]⟩), 1, 16) := by kernel_rfl
/-- The workload's rows of tasks. -/
def tkF (job key dur arr : Nat → Nat) (c : Nat) : Value := if c % 4 = 0 then .int .i64 (job (c / 4) : Int) else if c % 4 = 1 then .int .i64 (dur (c / 4) : Int) else if c % 4 = 2 then .int .i64 (arr (c / 4) : Int) else .string (keyB (key (c / 4)))
set_option maxRecDepth 100000 in
set_option maxHeartbeats 4000000 in
theorem byArrival21a (n b5 bl : Nat) (vj : Value) (job key dur arr : Nat → Nat) (w : World) (hn : n ≤ 2048) (hkey : ∀ i, i < n → key i < 5) (hl : w.rowIs bl 57 2 (fun c => if c = 0 then vj else .slice (some ⟨b5, 0, none⟩) n n)) (h5 : w.rowIs b5 54 (n * 4) (tkF job key dur arr))
    (Post : Ending → World → Prop) (hpost : ∀ wr bt bm vk, BaL w wr n bt bm job key dur arr n vk → Calls Yba.prog 32 #[.slice (some ⟨bt, 0, none⟩) n n, .func (.func 33) #[] #[]] wr fun e w' => e = .returned (.tuple #[]) ∧ Post (.returned (.tuple #[.slice (some ⟨bt, 0, none⟩) n n, vk])) w') :
    Calls Yba.prog 21 #[pn bl 0] w Post := by
  have mixed := mixedYba
  have aE := agg54
  have zE := size54
  have aE2 := agg105
  have zE2 := size105
  have m1 := mk86 n (by omega)
  have hmm := @run_makeMap Yba.prog
  have HKEY : Hid (∀ i, i < n → key i < 5) := hkey
  have HL : Hid (w.rowIs bl 57 2 (fun c => if c = 0 then vj else .slice (some ⟨b5, 0, none⟩) n n)) := hl
  have H5 : Hid (w.rowIs b5 54 (n * 4) (tkF job key dur arr)) := h5
  have HPOST : Hid _ := hpost
  have hlw := hl.lt
  have h5w := h5.lt
  have HST : Hid _ := BaL.start w n job key dur arr
  obtain ⟨Wa, hWa⟩ : ∃ X, w.alloc (.cells (madeCells #[.int .i64 0, .int .i64 0, .int .i64 0, .int .i64 0, .int .i64 0] (n * 5)) 105) = X := ⟨_, rfl⟩
  obtain ⟨W0, hW0⟩ : ∃ X, Wa.alloc (.map #[] 0) = X := ⟨_, rfl⟩
  have hza : Wa.heap.size = w.heap.size + 1 := by rw [← hWa]; simp
  have cl : w.cell? ⟨bl, 1, none⟩ = some (.slice (some ⟨b5, 0, none⟩) n n) := hl.cell (i := 1) (by omega)
  have cl0 : W0.cell? ⟨bl, 1, none⟩ = some (.slice (some ⟨b5, 0, none⟩) n n) := by rw [← hW0, ← hWa]; exact ((Fr.alloc [] w _).trans (Fr.alloc [] _ _)).cell cl (by simp)
  have HST2 : Hid (BaL w W0 n w.heap.size (w.heap.size + 1) job key dur arr 0 (.slice none 0 0)) := by rw [← hW0, ← hWa]; exact HST.out
  obtain ⟨bt, hbt⟩ : ∃ b, w.heap.size = b := ⟨_, rfl⟩
  rw [hbt] at HST2 hza
  have HBT : Hid (w.heap.size = bt) := hbt
  clear hl h5 hpost HST hkey
  go_enter Yba.func21, Yba.ntmps21
  go_wp2_with fail
  clear cl cl0 m1
  go_loopg [21, 3] n (fun g iv vk wr => ∃ i : Nat, iv = .int .i64 (i : Int) ∧ i ≤ n ∧ Hid (g = n - i ∧ BaL w wr n bt (bt + 1) job key dur arr i vk))
  case atStart => exact ⟨0, rfl, Nat.zero_le _, by omega, HST2.out⟩
  case round =>
    clear HST2 hW0 hWa hza
    obtain ⟨i, rfl, hi, HR⟩ := hrel
    by_cases hlt : i < n
    · have zi : (i : Int) < (n : Int) := by omega
      have B := HR.out.2
      have r5 := B.fr.row H5.out (by simp)
      have s0 : wr.cell? ⟨b5, i * 4, none⟩ = some (.int .i64 (job i : Int)) := by have := r5.cell (i := i * 4) (by omega); rw [this]; simp [tkF]
      have s1 : wr.cell? ⟨b5, i * 4 + 1, none⟩ = some (.int .i64 (dur i : Int)) := by have := r5.cell (i := i * 4 + 1) (by omega); rw [this]; simp [tkF, show (i * 4 + 1) % 4 = 1 by omega, show (i * 4 + 1) / 4 = i by omega]
      have s2 : wr.cell? ⟨b5, i * 4 + 2, none⟩ = some (.int .i64 (arr i : Int)) := by have := r5.cell (i := i * 4 + 2) (by omega); rw [this]; simp [tkF, show (i * 4 + 2) % 4 = 2 by omega, show (i * 4 + 2) / 4 = i by omega]
      have s3 : wr.cell? ⟨b5, i * 4 + 3, none⟩ = some (.string (keyB (key i))) := by have := r5.cell (i := i * 4 + 3) (by omega); rw [this]; simp [tkF, show (i * 4 + 3) % 4 = 3 by omega, show (i * 4 + 3) / 4 = i by omega]
      obtain ⟨zz, hzz⟩ : ∃ z, wr.heap.size = z := ⟨_, rfl⟩
      obtain ⟨W4, hW4⟩ : ∃ X, wr.alloc (.cells #[.int .i64 0, .int .i64 0, .int .i64 0, .string ⟨#[]⟩] 54) = X := ⟨_, rfl⟩
      have r4 := World.rowIs_alloc wr #[.int .i64 0, .int .i64 0, .int .i64 0, .string ⟨#[]⟩] 54 (fun c => (#[.int .i64 0, .int .i64 0, .int .i64 0, .string ⟨#[]⟩] : Array Value)[c]!) (fun c hc => by rcases (show c = 0 ∨ c = 1 ∨ c = 2 ∨ c = 3 by simp at hc; omega) with rfl | rfl | rfl | rfl <;> rfl)
      rw [hW4, hzz] at r4
      have c40 := r4.cell (i := 0) (by simp)
      have c41 := r4.cell (i := 1) (by simp)
      have c42 := r4.cell (i := 2) (by simp)
      have c43 := r4.cell (i := 3) (by simp)
      have f40 := r4.frozen 0
      have f41 := r4.frozen 1
      have f42 := r4.frozen 2
      have f43 := r4.frozen 3
      have HR4 : Hid (W4.rowIs zz 54 4 (fun c => (#[.int .i64 0, .int .i64 0, .int .i64 0, .string ⟨#[]⟩] : Array Value)[c]!)) := r4
      clear B r5 r4
      go_upto_region 6 with fail
      obtain ⟨W5, hW5⟩ : ∃ X, X = (((W4.setCell ⟨zz, 0, none⟩ (.int .i64 (job i : Int))).setCell ⟨zz, 1, none⟩ (.int .i64 (dur i : Int))).setCell ⟨zz, 2, none⟩ (.int .i64 (arr i : Int))).setCell ⟨zz, 3, none⟩ (.string (keyB (key i))) := ⟨_, rfl⟩
      rw [← hW5]
      have f45 : Fr [zz] W4 W5 := by rw [hW5]; exact (((Fr.setCell _ _ _ (by simp)).trans (Fr.setCell _ _ _ (by simp))).trans (Fr.setCell _ _ _ (by simp))).trans (Fr.setCell _ _ _ (by simp))
      have f5 : Fr [] wr W5 := fr_new (by rw [← hW4]; exact Fr.alloc _ _ _) f45 (by omega)
      have r5 : W5.rowIs zz 54 4 (fun c => if c = 3 then .string (keyB (key i)) else if c = 2 then .int .i64 (arr i : Int) else if c = 1 then .int .i64 (dur i : Int) else if c = 0 then .int .i64 (job i : Int) else (#[.int .i64 0, .int .i64 0, .int .i64 0, .string ⟨#[]⟩] : Array Value)[c]!) := by rw [hW5]; exact (((HR4.out.set 0 _).set 1 _).set 2 _).set 3 _
      have e0 : W5.cell? ⟨zz, 0, none⟩ = some (.int .i64 (job i : Int)) := r5.cell (i := 0) (by omega)
      have e1 : W5.cell? ⟨zz, 1, none⟩ = some (.int .i64 (dur i : Int)) := r5.cell (i := 1) (by omega)
      have e2 : W5.cell? ⟨zz, 2, none⟩ = some (.int .i64 (arr i : Int)) := r5.cell (i := 2) (by omega)
      have e3 : W5.cell? ⟨zz, 3, none⟩ = some (.string (keyB (key i))) := r5.cell (i := 3) (by omega)
      have HF5 : Hid (Fr [] wr W5 ∧ zz < W5.heap.size ∧ W5.rowIs zz 54 4 (fun c => if c = 3 then .string (keyB (key i)) else if c = 2 then .int .i64 (arr i : Int) else if c = 1 then .int .i64 (dur i : Int) else if c = 0 then .int .i64 (job i : Int) else (#[.int .i64 0, .int .i64 0, .int .i64 0, .string ⟨#[]⟩] : Array Value)[c]!)) := ⟨f5, r5.lt, r5⟩
      have hk5 := HKEY.out i hlt
      have B := HR.out.2
      have mp5 := B.mp.fr f5 (by simp)
      have hlook := mp5.look under102 (zero3 W5) hk5
      have rt5 := f5.row B.rt (by simp)
      have hlen := ksOf_len key n i HKEY.out (by omega)
      have HZ : Hid (wr.heap.size = zz) := hzz
      by_cases hk : key i ∈ ksOf key i
      · rw [if_pos hk] at hlook
        simp only [Option.getD_some, Option.isSome_some] at hlook
        have HK : Hid (key i ∈ ksOf key i) := hk
        have g0 := rt5.cell (i := i * 5) (by omega)
        have g1 := rt5.cell (i := i * 5 + 1) (by omega)
        have g2 := rt5.cell (i := i * 5 + 2) (by omega)
        have g3 := rt5.cell (i := i * 5 + 3) (by omega)
        have g4 := rt5.cell (i := i * 5 + 4) (by omega)
        have k0 := rt5.frozen (i * 5)
        have k1 := rt5.frozen (i * 5 + 1)
        have k2 := rt5.frozen (i * 5 + 2)
        have k3 := rt5.frozen (i * 5 + 3)
        have k4 := rt5.frozen (i * 5 + 4)
        generalize hix : (((ksOf key i).idxOf (key i) : Nat) : Int) = ix at hlook
        have HIX : Hid ((((ksOf key i).idxOf (key i) : Nat) : Int) = ix) := hix
        clear hW5 f45 f5 r5 B mp5 rt5 hk hix c40 c41 c42 c43 f40 f41 f42 f43 hW4 s0 s1 s2 s3 hzz
        go_wp2_with fail
        go_roundg (n - (i + 1))
        case measure => have := HR.out.1; omega
        case rel =>
          have B := HR.out.2
          have f5 := HF5.out.1
          have hks : ksOf key (i + 1) = ksOf key i := by show (if _ then _ else _) = _; rw [if_pos HK.out]
          refine ⟨i + 1, rfl, by omega, rfl, BaL.put (f5.row B.rt (by simp)) hlt (by rw [hks]; exact B.mp.fr f5 (by simp)) (by rw [hks]; exact own_frW B.kv f5 (by simp)) (B.fr.trans f5) B.n1 B.n2 B.n3 ?_⟩
          rw [← HIX.out, ksOf_idx key (show i ≤ n by omega) HK.out]
      · rw [if_neg hk] at hlook
        simp only [Option.getD_none, Option.isSome_none] at hlook
        have HK : Hid (key i ∉ ksOf key i) := hk
        obtain ⟨ad, cap, hvk⟩ : ∃ ad cap, u3 = .slice ad (ksOf key i).length cap := by
          rcases B.kv.2 with ⟨h1, h2⟩ | ⟨g, cap, cur, h1, _⟩
          · exact ⟨none, 0, by rw [h1]; congr 1; have : (ksOf key i) = [] := by simpa using h2
                               rw [this]; rfl⟩
          · exact ⟨_, cap, h1⟩
        subst hvk
        obtain ⟨ln, hln⟩ : ∃ x, x = (ksOf key i).length := ⟨_, rfl⟩
        obtain ⟨W6, hup, hm6, hf6, hs6⟩ := mp5.store under102 (by omega) hk5 (.int .i64 (ln : Int))
        have hbm : bt + 1 < wr.heap.size := B.mp.lt
        have kv6 := own_frW (own_frW B.kv f5 (by simp)) hf6 (fun b hb => by simp; exact (B.n3 b hb).2.2)
        have HM6 : Hid (MapS W6 (bt + 1) ((ksOf key i).length + 1) (fun j => if j = key i then some (.int .i64 (ln : Int)) else (if j ∈ ksOf key i then some (.int .i64 (((ksOf key i).idxOf j : Nat) : Int)) else none)) ∧ Fr [bt + 1] W5 W6) := ⟨hm6, hf6⟩
        have rz6 := hf6.row r5 (by simp; omega)
        have e06 : W6.cell? ⟨zz, 0, none⟩ = some (.int .i64 (job i : Int)) := rz6.cell (i := 0) (by omega)
        have e16 : W6.cell? ⟨zz, 1, none⟩ = some (.int .i64 (dur i : Int)) := rz6.cell (i := 1) (by omega)
        have e26 : W6.cell? ⟨zz, 2, none⟩ = some (.int .i64 (arr i : Int)) := rz6.cell (i := 2) (by omega)
        have e36 : W6.cell? ⟨zz, 3, none⟩ = some (.string (keyB (key i))) := rz6.cell (i := 3) (by omega)
        obtain ⟨W6a, hW6a⟩ : ∃ X, W6.alloc (.cells #[.string (keyB (key i))] 9) = X := ⟨_, rfl⟩
        obtain ⟨z6, hz6⟩ : ∃ z, W6.heap.size = z := ⟨_, rfl⟩
        have fa : Fr [] W6 W6a := by rw [← hW6a]; exact Fr.alloc _ _ _
        have ra := World.rowIs_alloc W6 #[.string (keyB (key i))] 9 (fun _ => .string (keyB (key i))) (fun c hc => by rcases (show c = 0 by simp at hc; omega) with rfl; rfl)
        rw [hW6a, hz6] at ra
        have hs6a : W6a.heap.size = z6 + 1 := by rw [← hW6a]; simp [hz6]
        have HN : Hid (∀ j u, [Value.string (keyB (key i))][j]? = some u → W6a.cell? ((⟨z6, 0, none⟩ : Addr).add j) = some u) := fun j u hu => by
          cases j with
          | zero => simp at hu; subst hu; exact ra.cell (i := 0) (by simp)
          | succ j => simp at hu
        have HKV : Hid (W6a.ownsRow w.heap.size 9 1 (.slice ad (ksOf key i).length cap) (ksOf key i).length ((ksOf key i).map fun k => .string (keyB k))) := own_frW kv6 fa (by simp)
        have HSZ : Hid (W6a.heap.size = z6 + 1 ∧ W6.heap.size = z6 ∧ w.heap.size ≤ W6a.heap.size) := ⟨hs6a, hz6, by have x1 := B.fr.size; have x2 := f5.size; omega⟩
        have HFA : Hid (Fr [] W6 W6a) := fa
        have HRZ : Hid (W6.rowIs zz 54 4 (fun c => if c = 3 then .string (keyB (key i)) else if c = 2 then .int .i64 (arr i : Int) else if c = 1 then .int .i64 (dur i : Int) else if c = 0 then .int .i64 (job i : Int) else (#[.int .i64 0, .int .i64 0, .int .i64 0, .string ⟨#[]⟩] : Array Value)[c]!)) := rz6
        have HRT6 : Hid (W6a.rowIs bt 105 (n * 5) (rowT (fT job key dur arr n) i)) := fa.row (hf6.row rt5 (by simp)) (by simp)
        obtain ⟨i0, hi0, hzz0, hzz1, hzz2⟩ := info_parts info9
        have HLN : Hid (ln = (ksOf key i).length) := hln
        rw [← hln] at hlen
        have HN3 : Hid (∀ b, (Value.slice ad (ksOf key i).length cap).ownBlock = some b → w.heap.size ≤ b ∧ b ≠ bt ∧ b ≠ bt + 1 ∧ b < wr.heap.size) := fun b hb => ⟨(B.n3 b hb).1, (B.n3 b hb).2.1, (B.n3 b hb).2.2, B.vlt b hb⟩
        have hzge : bt < wr.heap.size := B.rt.lt
        have HGE : Hid (bt < zz ∧ bt + 1 < zz ∧ zz < z6) := by have x1 := HF5.out.2.1; have x2 := HZ.out; exact ⟨by omega, by omega, by omega⟩
        rw [← hln] at HKV HN3 HR ⊢
        clear hW5 f45 f5 r5 B mp5 rt5 hk c40 c41 c42 c43 f40 f41 f42 f43 hW4 s0 s1 s2 s3 hzz hm6 hf6 hs6 kv6 rz6 fa ra hs6a hbm hzge hln
        go_wp2_with (first | (at_builtin; refine wpList_append_lies W6a rfl (.tmp 41) (.tmp 44) 46 rfl w.heap.size 9 i0 _ 1 16 Yba.underlying46 hi0 hzz0 hzz1 hzz2 (by rfl) (by decide) (.slice ad ln cap) ln ((ksOf key i).map fun k => .string (keyB k)) rfl HKV.out ⟨z6, 0, none⟩ 1 1 [.string (keyB (key i))] rfl rfl HN.out (by intro u hu; simp at hu; subst hu; rfl) (by decide) (by simp [maxLen]; omega) (by omega) HSZ.out.2.2 (z6 + 1) HSZ.out.1 ?_; intro g cap7 w7 hown hgrow hat hlt7; have FR7 : Hid (Fr ((Value.slice ad ln cap).ownBlock.toList) W6a w7) := ⟨hgrow.os, hgrow.tape, hgrow.output, hgrow.size, fun k hk hn => hgrow.block k hk (fun e => hn (by simp [← e]))⟩; have H7 : Hid (w7.ownsRow w.heap.size 9 1 (.slice (some ⟨g, 0, none⟩) (ln + 1) cap7) (ln + 1) (((ksOf key i).map fun k => .string (keyB k)) ++ [.string (keyB (key i))]) ∧ ((Value.slice ad ln cap).ownBlock = some g ∨ g = z6 + 1)) := ⟨hown, hat⟩; have nb : ∀ b, bt ≤ b → b ≤ bt + 1 ∨ zz ≤ b → b ∉ (Value.slice ad ln cap).ownBlock.toList := (fun b h0 h1 hm => by simp at hm; have := HN3.out b hm; have := HZ.out; omega); have rt7 := FR7.out.row HRT6.out (nb bt (by omega) (by omega)); have rz7 := FR7.out.row (HFA.out.row HRZ.out (by simp)) (nb zz (by have := HGE.out; omega) (by omega)); have e07 : w7.cell? ⟨zz, 0, none⟩ = some (.int .i64 (job i : Int)) := rz7.cell (i := 0) (by omega); have e17 : w7.cell? ⟨zz, 1, none⟩ = some (.int .i64 (dur i : Int)) := rz7.cell (i := 1) (by omega); have e27 : w7.cell? ⟨zz, 2, none⟩ = some (.int .i64 (arr i : Int)) := rz7.cell (i := 2) (by omega); have g0 := rt7.cell (i := i * 5) (by omega); have g1 := rt7.cell (i := i * 5 + 1) (by omega); have g2 := rt7.cell (i := i * 5 + 2) (by omega); have g3 := rt7.cell (i := i * 5 + 3) (by omega); have g4 := rt7.cell (i := i * 5 + 4) (by omega); have k0 := rt7.frozen (i * 5); have k1 := rt7.frozen (i * 5 + 1); have k2 := rt7.frozen (i * 5 + 2); have k3 := rt7.frozen (i * 5 + 3); have k4 := rt7.frozen (i * 5 + 4); have HRT7 : Hid (w7.rowIs bt 105 (n * 5) (rowT (fT job key dur arr n) i)) := rt7; clear hown hgrow hat hlt7 rt7 rz7 nb))
        go_roundg (n - (i + 1))
        case measure => have := HR.out.1; omega
        case rel =>
          have B := HR.out.2
          have f5 := HF5.out.1
          have hks : ksOf key (i + 1) = ksOf key i ++ [key i] := by show (if _ then _ else _) = _; rw [if_neg HK.out]
          have hl1 : (ksOf key (i + 1)).length = ln + 1 := by rw [hks, HLN.out]; simp
          have hge := HGE.out
          have n1 := B.n1
          have nb1 : bt + 1 ∉ (Value.slice ad ln cap).ownBlock.toList := fun hm => by simp at hm; exact (HN3.out _ hm).2.2.1 rfl
          refine ⟨i + 1, rfl, by omega, rfl, BaL.put HRT7.out hlt ?_ ?_ ?_ B.n1 B.n2 (fun b hb => ?_) ?_⟩
          · have hfn : (fun k => if k ∈ ksOf key (i + 1) then some (Value.int .i64 (((ksOf key (i + 1)).idxOf k : Nat) : Int)) else none) = (fun j => if j = key i then some (.int .i64 (ln : Int)) else (if j ∈ ksOf key i then some (.int .i64 (((ksOf key i).idxOf j : Nat) : Int)) else none)) := by
              funext k
              rw [hks]
              by_cases e : k = key i
              · subst e; rw [if_pos (by simp), if_pos rfl, idx_new HK.out, HLN.out]
              · rw [if_neg e]
                by_cases e2 : k ∈ ksOf key i
                · rw [if_pos (by simp [e2]), if_pos e2, idx_app e2]
                · rw [if_neg (by simp [e2, e]), if_neg e2]
            rw [hfn, hl1]
            have hmm6 := HM6.out.1
            rw [← HLN.out] at hmm6
            exact (hmm6.fr HFA.out (by simp)).fr FR7.out nb1
          · rw [hl1, hks, List.map_append]
            exact H7.out.1
          · have f6 := HM6.out.2
            have fa := HFA.out
            have f7 := FR7.out
            have g0 := B.fr
            refine ⟨f7.os.trans (fa.os.trans (f6.os.trans (f5.os.trans g0.os))), f7.tape.trans (fa.tape.trans (f6.tape.trans (f5.tape.trans g0.tape))), f7.output.trans (fa.output.trans (f6.output.trans (f5.output.trans g0.output))), ?_, fun k hk _ => ?_⟩
            · have := g0.size; have := f5.size; have := f6.size; have := fa.size; have := f7.size; omega
            · have z0 := g0.size
              have z1 := f5.size
              have z2 := f6.size
              have z3 := fa.size
              rw [f7.block k (by omega) (fun hm => by simp at hm; have := (HN3.out k hm).1; omega), fa.block k (by omega) (by simp), f6.block k (by omega) (by simp; omega), f5.block k (by omega) (by simp), g0.block k hk (by simp)]
          · simp [Value.ownBlock] at hb
            subst hb
            rcases H7.out.2 with e | e
            · have := HN3.out _ e; exact ⟨this.1, this.2.1, this.2.2.1⟩
            · have hsz := HSZ.out.2.2
              exact ⟨by omega, by omega, by omega⟩
          · have hm : key i ∈ ksOf key (i + 1) := by rw [hks]; simp
            rw [ksOf_idx key (show i + 1 ≤ n by omega) hm, hks, idx_new HK.out, HLN.out]
    · have ei : i = n := by omega
      have HEI : Hid (i = n) := ei
      have HB : Hid (BaL w wr n bt (bt + 1) job key dur arr n u3) := by have := HR.out.2; rw [ei] at this; exact this
      have hs := HPOST.out wr bt (bt + 1) u3 HB.out
      have zi : ¬ (i : Int) < (n : Int) := by omega
      go_wp2_with (first | (go_at_call 32; refine hs.mono ?_; clear hs; rintro e w2 ⟨rfl, hp⟩; have HP : Hid (Post (.returned (.tuple #[.slice (some ⟨bt, 0, none⟩) n n, u3])) w2) := hp; clear hp))
      exact HP.out
end Go.Proofs.Ybulkdpsg
