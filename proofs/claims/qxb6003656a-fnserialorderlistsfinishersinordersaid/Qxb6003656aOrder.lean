/-
  'serialOrder' (23) BY CONTRACT.
-/
import Derived.Test.Qxb6003656aGrow
namespace Go.Proofs.Qxb6003656a
open Go.RowKit
set_option linter.unusedVariables false
set_option linter.unusedSimpArgs false

def ni (l : List Nat) : List Int := List.map (fun x : Nat => (x : Int)) l
theorem up0 (P ss : List Int) (c : Int) : P ++ ni (up ss c 0) = P := by simp [up, ni]
theorem dn0 (P ss : List Int) (c : Int) (n : Nat) : P ++ ni (dn ss c n n) = P := by rw [dn_end]; simp [ni]
theorem ni_append (a b : List Nat) : ni (a ++ b) = ni a ++ ni b := by simp [ni]
theorem ni_length (a : List Nat) : (ni a).length = a.length := by simp [ni]
theorem ni_getD (l : List Nat) (k : Nat) : (ni l).getD k 0 = ((l.getD k 0 : Nat) : Int) := by
  by_cases h : k < l.length
  · simp [ni, List.getD, h]
  · simp [ni, List.getD, h]

theorem own_put {w1 : World} {B : Nat} {v' : Value} {N : Nat} {L : List Int} {x : Int} (hn : N = L.length) (h : w1.ownsRow B 3 1 v' (N + 1) (ncells .i64 L ++ [.int .i64 x])) : Ow 3 .i64 w1 B v' (L ++ [x]) := by
  have e : ncells .i64 (L ++ [x]) = ncells .i64 L ++ [.int .i64 x] := by rw [ncells_append]; rfl
  show World.ownsRow _ _ _ _ _ _ _
  rw [e, List.length_append, ← hn]
  exact h
theorem up_put {ss : List Int} {c : Int} {k : Nat} (P : List Int) (h : ss.getD k 0 = c) : P ++ ni (up ss c (k + 1)) = (P ++ ni (up ss c k)) ++ [(k : Int)] := by
  rw [up_succ, if_pos h, ni_append, List.append_assoc]; rfl
theorem up_pass {ss : List Int} {c : Int} {k : Nat} (P : List Int) (h : ss.getD k 0 ≠ c) : P ++ ni (up ss c (k + 1)) = P ++ ni (up ss c k) := by
  rw [up_succ, if_neg h, List.append_nil]
theorem dn_put {ss : List Int} {c : Int} {n j : Nat} (P : List Int) (hj : j < n) (h : ss.getD j 0 = c) : P ++ ni (dn ss c n j) = (P ++ ni (dn ss c n (j + 1))) ++ [(j : Int)] := by
  rw [dn_step ss c n j hj, if_pos h, ni_append, List.append_assoc]; rfl
theorem dn_pass {ss : List Int} {c : Int} {n j : Nat} (P : List Int) (hj : j < n) (h : ss.getD j 0 ≠ c) : P ++ ni (dn ss c n j) = P ++ ni (dn ss c n (j + 1)) := by
  rw [dn_step ss c n j hj, if_neg h, List.append_nil]

set_option maxHeartbeats 4000000 in
set_option maxRecDepth 100000 in
theorem order_some (a : Option Addr) (len : Nat) (zs : List Int) (sb off n sc : Nat) (ss : List Int) (w : World) (hlen : len ≤ 70000) (hn0 : 0 < n) (hn : n ≤ 70000) (hin : ComesIn .i64 w a len len zs)
    (hssl : ss.length = n) (hsb : sb < w.heap.size) (hss : ∀ j, j < n → w.cell? ⟨sb, off + j, none⟩ = some (.int .u8 (ss.getD j 0))) :
    Calls Try.prog 23 #[.slice a len len, .slice (some ⟨sb, off, none⟩) n sc] w fun e w' => ∃ v, e = .returned v ∧ Ow 3 .i64 w' w.heap.size v (zs ++ ni (ord ss)) ∧ Below w.heap.size w w' := by
  obtain ⟨i0, hi, hz0, hz1, hz2⟩ := info_parts Try.info3
  have Hi := toHid hi
  have Hz0 := toHid hz0
  have Hz1 := toHid hz1
  have Hz2 := toHid hz2
  have HSL := toHid hssl
  have HSS := toHid hss
  have CG := toHid (grow_some a len n zs w (by omega) hn0 (by omega) hin)
  have HZL := toHid hin.2.1
  obtain ⟨B0, hB0⟩ : ∃ B0, B0 = w.heap.size := ⟨_, rfl⟩
  rw [← hB0] at CG hsb ⊢
  have HB0 := toHid hB0
  have hB0le : B0 ≤ w.heap.size := by omega
  clear hi hz0 hz1 hz2 hssl hss hin hB0
  go_enter Try.func23, Try.ntmps23
  go_wp2_with (go_at_call 26; refine CG.out.mono ?_; rintro e w1 ⟨v1, rfl, ho1, hb1⟩)
  have HO0 := toHid ho1
  have hb0 := toHid hb1
  clear ho1 hb1 CG
  go_loopw [0, 5, 6, 18] (fun v _ _ i wr => ∃ k : Nat, k ≤ n ∧ i = .int .i64 (k : Int) ∧ Ow 3 .i64 wr B0 v (zs ++ ni (up ss 2 k)) ∧ Below B0 w wr) (fun _ _ _ i _ => n - (intOf i).toNat)
  case atStart => exact ⟨0, Nat.zero_le _, rfl, by rw [up0]; exact HO0.out, hb0.out⟩
  case round =>
    clear HO0 hb0
    obtain ⟨k, hk, rfl, ho, hbel⟩ := hrel
    have HO := toHid ho
    clear ho
    by_cases hlt : k < n
    · obtain ⟨cc, hcc⟩ : ∃ cc, cc = ss.getD k 0 := ⟨_, rfl⟩
      have hcell : wr.cell? ⟨sb, off + k, none⟩ = some (.int .u8 cc) := by rw [hcc, hbel.cell (by exact hsb)]; exact HSS.out k hlt
      have HCC := toHid hcc
      clear hcc
      cases hc : (cc == 2)
      · go_wp2
        go_roundw
        case rel => exact ⟨k + 1, by omega, by go_num, by rw [up_pass _ (fun e => by rw [← HCC.out] at e; rw [e] at hc; simp at hc)]; exact HO.out, hbel⟩
        case measure => simp [intOf]; omega
      · have hup := up_len_le ss 2 k
        obtain ⟨N, hN⟩ : ∃ N, N = (zs ++ ni (up ss 2 k)).length := ⟨_, rfl⟩
        have HN := toHid hN
        have hNb : N ≤ 1000000 := by rw [hN, List.length_append, ni_length]; have := HZL.out; omega
        have HOWN : Hid (wr.ownsRow B0 3 1 u0 N (ncells .i64 (zs ++ ni (up ss 2 k)))) := by
          have h : World.ownsRow _ _ _ _ _ _ _ := HO.out
          rw [← hN] at h
          exact h
        clear hN
        go_wp2_with (at_builtin; refine wpList_append_own _ rfl _ _ 22 rfl B0 3 i0 (.int .i64 0) 1 8 Try.underlying22 Hi.out Hz0.out Hz1.out Hz2.out rfl (by decide) _ _ _ rfl (HOWN.out.alloc _) ⟨wr.heap.size, 0, none⟩ 1 1 [.int .i64 ((k : Nat) : Int)] rfl rfl ?c1 ?c2 ?c3 ?c4 ?c5 ?_)
        case c1 =>
          intro j u hj
          match j, hj with
          | 0, hj => simp at hj; subst hj; simp [Addr.add]
        case c2 => intro u hu; simp at hu; subst hu; rfl
        case c3 => unfold maxLen; omega
        case c4 => omega
        case c5 => have := hbel.size; simp; omega
        intro v' w9 hown' hgrow hnil'
        have hb9 : Below B0 w w9 := (hbel.alloc (by have := hbel.size; omega) _).grown hgrow (by have := hbel.size; simp; omega) (fun k hk => ((HOWN.out).lt k hk).1)
        have HO9 : Hid (Ow 3 .i64 w9 B0 v' ((zs ++ ni (up ss 2 k)) ++ [((k : Nat) : Int)])) := own_put HN.out hown'
        clear hown' hgrow hnil' HO HOWN HN
        go_wp2
        go_roundw
        case rel =>
          have hrel9 : Ow 3 .i64 w9 B0 v' (zs ++ ni (up ss 2 (k + 1))) := by rw [up_put _ (by rw [← HCC.out]; simpa using hc)]; exact HO9.out
          first | exact ⟨k + 1, by omega, by go_num, hrel9, hb9⟩ | ((repeat apply Exists.intro); exact ⟨⟨k + 1, by omega, by go_num, hrel9, hb9⟩, rfl⟩)
        case measure => simp [intOf]; omega
    · have hkn : k = n := by omega
      subst k
      obtain ⟨P2, hP2⟩ : ∃ P2, P2 = zs ++ ni (up ss 2 n) := ⟨_, rfl⟩
      have hP2l : P2.length ≤ 140000 := by rw [hP2, List.length_append, ni_length]; have b1 := up_len_le ss 2 n; have := HZL.out; omega
      rw [← hP2] at HO
      have HP2 := toHid hP2
      have HO1 := toHid HO.out
      have hb1' := toHid hbel
      clear HO hbel hP2
      go_wp2
      go_loopw [0, 7] (fun v i wr => ∃ j : Nat, j ≤ n ∧ i = .int .i64 ((j : Int) - 1) ∧ Ow 3 .i64 wr B0 v (P2 ++ ni (dn ss 3 n j)) ∧ Below B0 w wr) (fun _ i _ => (intOf i + 1).toNat)
      case atStart => exact ⟨n, Nat.le_refl _, rfl, by rw [dn0]; exact HO1.out, hb1'.out⟩
      case round =>
        clear HO1 hb1'
        obtain ⟨j', hj', rfl, ho, hbel⟩ := hrel
        have HO := toHid ho
        clear ho
        by_cases hpos : 0 < j'
        · obtain ⟨j, rfl⟩ : ∃ j, j' = j + 1 := ⟨j' - 1, by omega⟩
          have hjn : j < n := by omega
          obtain ⟨cc, hcc⟩ : ∃ cc, cc = ss.getD j 0 := ⟨_, rfl⟩
          have hcell : wr.cell? ⟨sb, off + j, none⟩ = some (.int .u8 cc) := by rw [hcc, hbel.cell (by exact hsb)]; exact HSS.out j hjn
          have HCC := toHid hcc
          clear hcc
          have ej : ((j + 1 : Nat) : Int) - 1 = (j : Int) := by omega
          rw [ej]
          cases hc : (cc == 3)
          · go_wp2
            go_roundw
            case rel => exact ⟨j, by omega, rfl, by rw [dn_pass _ hjn (fun e => by rw [← HCC.out] at e; rw [e] at hc; simp at hc)]; exact HO.out, hbel⟩
            case measure => simp [intOf]
          · have hup := dn_len_le ss 3 n (j + 1)
            obtain ⟨N, hN⟩ : ∃ N, N = (P2 ++ ni (dn ss 3 n (j + 1))).length := ⟨_, rfl⟩
            have HN := toHid hN
            have hNb : N ≤ 1000000 := by rw [hN, List.length_append, ni_length]; omega
            have HOWN : Hid (wr.ownsRow B0 3 1 u0 N (ncells .i64 (P2 ++ ni (dn ss 3 n (j + 1))))) := by
              have h : World.ownsRow _ _ _ _ _ _ _ := HO.out
              rw [← hN] at h
              exact h
            clear hN
            go_wp2_with (at_builtin; refine wpList_append_own _ rfl _ _ 22 rfl B0 3 i0 (.int .i64 0) 1 8 Try.underlying22 Hi.out Hz0.out Hz1.out Hz2.out rfl (by decide) _ _ _ rfl (HOWN.out.alloc _) ⟨wr.heap.size, 0, none⟩ 1 1 [.int .i64 ((j : Nat) : Int)] rfl rfl ?c1 ?c2 ?c3 ?c4 ?c5 ?_)
            case c1 =>
              intro j u hj
              match j, hj with
              | 0, hj => simp at hj; subst hj; simp [Addr.add]
            case c2 => intro u hu; simp at hu; subst hu; rfl
            case c3 => unfold maxLen; omega
            case c4 => omega
            case c5 => have := hbel.size; simp; omega
            intro v' w9 hown' hgrow hnil'
            have hb9 : Below B0 w w9 := (hbel.alloc (by have := hbel.size; omega) _).grown hgrow (by have := hbel.size; simp; omega) (fun k hk => ((HOWN.out).lt k hk).1)
            have HO9 : Hid (Ow 3 .i64 w9 B0 v' ((P2 ++ ni (dn ss 3 n (j + 1))) ++ [((j : Nat) : Int)])) := own_put HN.out hown'
            clear hown' hgrow hnil' HO HOWN HN
            go_wp2
            go_roundw
            case rel =>
              have hrel9 : Ow 3 .i64 w9 B0 v' (P2 ++ ni (dn ss 3 n j)) := by rw [dn_put _ hjn (by rw [← HCC.out]; simpa using hc)]; exact HO9.out
              first | exact ⟨j, by omega, rfl, hrel9, hb9⟩ | ((repeat apply Exists.intro); exact ⟨⟨j, by omega, rfl, hrel9, hb9⟩, rfl⟩)
            case measure => simp [intOf]
        · obtain rfl : j' = 0 := by omega
          obtain ⟨P3, hP3⟩ : ∃ P3, P3 = P2 ++ ni (dn ss 3 n 0) := ⟨_, rfl⟩
          have hP3l : P3.length ≤ 210000 := by rw [hP3, List.length_append, ni_length]; have b1 := dn_len_le ss 3 n 0; omega
          rw [← hP3] at HO
          have HP3 := toHid hP3
          have HO2 := toHid HO.out
          have hb2 := toHid hbel
          clear HO hbel hP3
          go_wp2
          go_loopw [0, 8, 9, 48] (fun v _ _ i wr => ∃ k : Nat, k ≤ n ∧ i = .int .i64 (k : Int) ∧ Ow 3 .i64 wr B0 v (P3 ++ ni (up ss 0 k)) ∧ Below B0 w wr) (fun _ _ _ i _ => n - (intOf i).toNat)
          case atStart => exact ⟨0, Nat.zero_le _, rfl, by rw [up0]; exact HO2.out, hb2.out⟩
          case round =>
            clear HO2 hb2
            obtain ⟨k, hk, rfl, ho, hbel⟩ := hrel
            have HO := toHid ho
            clear ho
            by_cases hlt : k < n
            · obtain ⟨cc, hcc⟩ : ∃ cc, cc = ss.getD k 0 := ⟨_, rfl⟩
              have hcell : wr.cell? ⟨sb, off + k, none⟩ = some (.int .u8 cc) := by rw [hcc, hbel.cell (by exact hsb)]; exact HSS.out k hlt
              have HCC := toHid hcc
              clear hcc
              cases hc : (cc == 0)
              · go_wp2
                go_roundw
                case rel => exact ⟨k + 1, by omega, by go_num, by rw [up_pass _ (fun e => by rw [← HCC.out] at e; rw [e] at hc; simp at hc)]; exact HO.out, hbel⟩
                case measure => simp [intOf]; omega
              · have hup := up_len_le ss 0 k
                obtain ⟨N, hN⟩ : ∃ N, N = (P3 ++ ni (up ss 0 k)).length := ⟨_, rfl⟩
                have HN := toHid hN
                have hNb : N ≤ 1000000 := by rw [hN, List.length_append, ni_length]; omega
                have HOWN : Hid (wr.ownsRow B0 3 1 u0 N (ncells .i64 (P3 ++ ni (up ss 0 k)))) := by
                  have h : World.ownsRow _ _ _ _ _ _ _ := HO.out
                  rw [← hN] at h
                  exact h
                clear hN
                go_wp2_with (at_builtin; refine wpList_append_own _ rfl _ _ 22 rfl B0 3 i0 (.int .i64 0) 1 8 Try.underlying22 Hi.out Hz0.out Hz1.out Hz2.out rfl (by decide) _ _ _ rfl (HOWN.out.alloc _) ⟨wr.heap.size, 0, none⟩ 1 1 [.int .i64 ((k : Nat) : Int)] rfl rfl ?c1 ?c2 ?c3 ?c4 ?c5 ?_)
                case c1 =>
                  intro j u hj
                  match j, hj with
                  | 0, hj => simp at hj; subst hj; simp [Addr.add]
                case c2 => intro u hu; simp at hu; subst hu; rfl
                case c3 => unfold maxLen; omega
                case c4 => omega
                case c5 => have := hbel.size; simp; omega
                intro v' w9 hown' hgrow hnil'
                have hb9 : Below B0 w w9 := (hbel.alloc (by have := hbel.size; omega) _).grown hgrow (by have := hbel.size; simp; omega) (fun k hk => ((HOWN.out).lt k hk).1)
                have HO9 : Hid (Ow 3 .i64 w9 B0 v' ((P3 ++ ni (up ss 0 k)) ++ [((k : Nat) : Int)])) := own_put HN.out hown'
                clear hown' hgrow hnil' HO HOWN HN
                go_wp2
                go_roundw
                case rel =>
                  have hrel9 : Ow 3 .i64 w9 B0 v' (P3 ++ ni (up ss 0 (k + 1))) := by rw [up_put _ (by rw [← HCC.out]; simpa using hc)]; exact HO9.out
                  first | exact ⟨k + 1, by omega, by go_num, hrel9, hb9⟩ | ((repeat apply Exists.intro); exact ⟨⟨k + 1, by omega, by go_num, hrel9, hb9⟩, rfl⟩)
                case measure => simp [intOf]; omega
            · have hkn : k = n := by omega
              subst k
              obtain ⟨P4, hP4⟩ : ∃ P4, P4 = P3 ++ ni (up ss 0 n) := ⟨_, rfl⟩
              have hP4l : P4.length ≤ 280000 := by rw [hP4, List.length_append, ni_length]; have b1 := up_len_le ss 0 n; omega
              rw [← hP4] at HO
              have HP4 := toHid hP4
              have HO3 := toHid HO.out
              have hb3 := toHid hbel
              clear HO hbel hP4
              go_wp2
              go_loopw [0, 10, 11, 62] (fun v _ _ i wr => ∃ k : Nat, k ≤ n ∧ i = .int .i64 (k : Int) ∧ Ow 3 .i64 wr B0 v (P4 ++ ni (up ss 4 k)) ∧ Below B0 w wr) (fun _ _ _ i _ => n - (intOf i).toNat)
              case atStart => exact ⟨0, Nat.zero_le _, rfl, by rw [up0]; exact HO3.out, hb3.out⟩
              case round =>
                clear HO3 hb3
                obtain ⟨k, hk, rfl, ho, hbel⟩ := hrel
                have HO := toHid ho
                clear ho
                by_cases hlt : k < n
                · obtain ⟨cc, hcc⟩ : ∃ cc, cc = ss.getD k 0 := ⟨_, rfl⟩
                  have hcell : wr.cell? ⟨sb, off + k, none⟩ = some (.int .u8 cc) := by rw [hcc, hbel.cell (by exact hsb)]; exact HSS.out k hlt
                  have HCC := toHid hcc
                  clear hcc
                  cases hc : (cc == 4)
                  · go_wp2
                    go_roundw
                    case rel => exact ⟨k + 1, by omega, by go_num, by rw [up_pass _ (fun e => by rw [← HCC.out] at e; rw [e] at hc; simp at hc)]; exact HO.out, hbel⟩
                    case measure => simp [intOf]; omega
                  · have hup := up_len_le ss 4 k
                    obtain ⟨N, hN⟩ : ∃ N, N = (P4 ++ ni (up ss 4 k)).length := ⟨_, rfl⟩
                    have HN := toHid hN
                    have hNb : N ≤ 1000000 := by rw [hN, List.length_append, ni_length]; omega
                    have HOWN : Hid (wr.ownsRow B0 3 1 u0 N (ncells .i64 (P4 ++ ni (up ss 4 k)))) := by
                      have h : World.ownsRow _ _ _ _ _ _ _ := HO.out
                      rw [← hN] at h
                      exact h
                    clear hN
                    go_wp2_with (at_builtin; refine wpList_append_own _ rfl _ _ 22 rfl B0 3 i0 (.int .i64 0) 1 8 Try.underlying22 Hi.out Hz0.out Hz1.out Hz2.out rfl (by decide) _ _ _ rfl (HOWN.out.alloc _) ⟨wr.heap.size, 0, none⟩ 1 1 [.int .i64 ((k : Nat) : Int)] rfl rfl ?c1 ?c2 ?c3 ?c4 ?c5 ?_)
                    case c1 =>
                      intro j u hj
                      match j, hj with
                      | 0, hj => simp at hj; subst hj; simp [Addr.add]
                    case c2 => intro u hu; simp at hu; subst hu; rfl
                    case c3 => unfold maxLen; omega
                    case c4 => omega
                    case c5 => have := hbel.size; simp; omega
                    intro v' w9 hown' hgrow hnil'
                    have hb9 : Below B0 w w9 := (hbel.alloc (by have := hbel.size; omega) _).grown hgrow (by have := hbel.size; simp; omega) (fun k hk => ((HOWN.out).lt k hk).1)
                    have HO9 : Hid (Ow 3 .i64 w9 B0 v' ((P4 ++ ni (up ss 4 k)) ++ [((k : Nat) : Int)])) := own_put HN.out hown'
                    clear hown' hgrow hnil' HO HOWN HN
                    go_wp2
                    go_roundw
                    case rel =>
                      have hrel9 : Ow 3 .i64 w9 B0 v' (P4 ++ ni (up ss 4 (k + 1))) := by rw [up_put _ (by rw [← HCC.out]; simpa using hc)]; exact HO9.out
                      first | exact ⟨k + 1, by omega, by go_num, hrel9, hb9⟩ | ((repeat apply Exists.intro); exact ⟨⟨k + 1, by omega, by go_num, hrel9, hb9⟩, rfl⟩)
                    case measure => simp [intOf]; omega
                · have hkn : k = n := by omega
                  subst k
                  have HFIN : Hid (Ow 3 .i64 wr B0 u0 (zs ++ ni (ord ss))) := by
                    have h := HO.out
                    show Ow _ _ _ _ _ _
                    have e : zs ++ ni (ord ss) = P4 ++ ni (up ss 4 n) := by
                      unfold ord
                      rw [HSL.out, ni_append, ni_append, ni_append, HP4.out, HP3.out, HP2.out]
                      simp only [List.append_assoc]
                    rw [e]; exact h
                  go_wp2
                  go_ret
                  exact ⟨u0, rfl, HFIN.out, hbel⟩

end Go.Proofs.Qxb6003656a
