import Derived.Test.Qxb6603462aTagRel
namespace Go.Proofs.Qxb6603462a.TagModel
open Go.RowKit Go.Proofs.Qxb6603462a.Use

set_option maxRecDepth 20000 in
set_option maxHeartbeats 8000000 in
theorem round2 (a : Option Addr) (n c : Nat) (f : Nat → Int) (w wr : World) (HR : Row8 w a n f) (hn : n ≤ 1048576) (total : List At) (x : At) (q : Int) (p : Nat) (L : List At) (v3 : Value) (u2 u9 u10 u11 u30 u31 u32 u33 u34 u35 u36 u37 u38 u39 u40 u41 u42 u43 u44 u45 u46 u47 u48 u49 u50 u51 u52 u53 u54 u55 u56 u57 u58 u59 u60 u61 u62 u63 u64 u65 u66 u67 u68 u69 u70 u71 u72 u73 u74 u75 u76 u77 u78 u79 u80 u81 u82 u83 u84 u85 u86 u87 u88 u89 u90 u91 u92 u93 u94 u95 u96 u97 u98 u99 u100 u101 u102 u103 u104 u105 u106 u107 u108 u109 u110 u111 u112 u113 u114 u115 u116 u117 u118 u119 u120 u121 u122 u123 u124 u125 u126 u127 u128 u129 u130 u131 u132 u133 u134 u135 u136 u137 u138 u139 u140 u141 u142 u143 u144 u145 u146 u147 u148 u149 u150 u151 u152 u153 u154 u155 u156 u157 u158 u159 u160 u161 c1 c12 c13 c14 c15 c16 c17 c18 c19 c20 c21 c22 c23 c24 c25 c26 c27 c28 c29 c162 c163 c164 c165 c166 c167 c168 c169 c170 c171 c172 c173 c174 c175 c176 c177 c178 c179 c180 c181 c182 c183 c184 c185 c186 c187 c188 c189 c190 c191 c192 c193 c194 c195 c196 c197 c198 c199 c200 : Value) (gk : Nat)
    (HG : Hid (gk = 3 * (n - p) + 2)) (hms : MSt w.heap.size w wr x v3 L) (hlt : p < n) (hL1 : L.length + 1 ≤ p) (HT : Hid (L ++ come f n 2 x q p = total))
    (J : Nat → Act → World → Prop) (K : Act → World → Prop) (Q : Exit → Act → World → Prop)
    (hJ : ∀ (k : Nat) (v qv sv r7 tv : Value) (w' : World) (u2 u9 u10 u11 u30 u31 u32 u33 u34 u35 u36 u37 u38 u39 u40 u41 u42 u43 u44 u45 u46 u47 u48 u49 u50 u51 u52 u53 u54 u55 u56 u57 u58 u59 u60 u61 u62 u63 u64 u65 u66 u67 u68 u69 u70 u71 u72 u73 u74 u75 u76 u77 u78 u79 u80 u81 u82 u83 u84 u85 u86 u87 u88 u89 u90 u91 u92 u93 u94 u95 u96 u97 u98 u99 u100 u101 u102 u103 u104 u105 u106 u107 u108 u109 u110 u111 u112 u113 u114 u115 u116 u117 u118 u119 u120 u121 u122 u123 u124 u125 u126 u127 u128 u129 u130 u131 u132 u133 u134 u135 u136 u137 u138 u139 u140 u141 u142 u143 u144 u145 u146 u147 u148 u149 u150 u151 u152 u153 u154 u155 u156 u157 u158 u159 u160 u161 : Value), Rel f n total w k v qv sv r7 tv w' → J k ⟨#[.slice a n c, c1, u2, v, .pointer (some ⟨w.heap.size, 0, none⟩), qv, sv, r7, tv, u9, u10, u11, c12, c13, c14, c15, c16, c17, c18, c19, c20, c21, c22, c23, c24, c25, c26, c27, c28, c29, u30, u31, u32, u33, u34, u35, u36, u37, u38, u39, u40, u41, u42, u43, u44, u45, u46, u47, u48, u49, u50, u51, u52, u53, u54, u55, u56, u57, u58, u59, u60, u61, u62, u63, u64, u65, u66, u67, u68, u69, u70, u71, u72, u73, u74, u75, u76, u77, u78, u79, u80, u81, u82, u83, u84, u85, u86, u87, u88, u89, u90, u91, u92, u93, u94, u95, u96, u97, u98, u99, u100, u101, u102, u103, u104, u105, u106, u107, u108, u109, u110, u111, u112, u113, u114, u115, u116, u117, u118, u119, u120, u121, u122, u123, u124, u125, u126, u127, u128, u129, u130, u131, u132, u133, u134, u135, u136, u137, u138, u139, u140, u141, u142, u143, u144, u145, u146, u147, u148, u149, u150, u151, u152, u153, u154, u155, u156, u157, u158, u159, u160, u161, c162, c163, c164, c165, c166, c167, c168, c169, c170, c171, c172, c173, c174, c175, c176, c177, c178, c179, c180, c181, c182, c183, c184, c185, c186, c187, c188, c189, c190, c191, c192, c193, c194, c195, c196, c197, c198, c199, c200], []⟩ w')
    (hK : ∀ a' w', Handed J gk a' w' → K a' w') :
    Code.wp Try.prog (loopAt Try.f18.body 1) (Exit.then K Q) ⟨#[.slice a n c, c1, u2, v3, .pointer (some ⟨w.heap.size, 0, none⟩), .int .u8 q, .int .i64 2, .int .i64 (back f p), .int .i64 p, u9, u10, u11, c12, c13, c14, c15, c16, c17, c18, c19, c20, c21, c22, c23, c24, c25, c26, c27, c28, c29, u30, u31, u32, u33, u34, u35, u36, u37, u38, u39, u40, u41, u42, u43, u44, u45, u46, u47, u48, u49, u50, u51, u52, u53, u54, u55, u56, u57, u58, u59, u60, u61, u62, u63, u64, u65, u66, u67, u68, u69, u70, u71, u72, u73, u74, u75, u76, u77, u78, u79, u80, u81, u82, u83, u84, u85, u86, u87, u88, u89, u90, u91, u92, u93, u94, u95, u96, u97, u98, u99, u100, u101, u102, u103, u104, u105, u106, u107, u108, u109, u110, u111, u112, u113, u114, u115, u116, u117, u118, u119, u120, u121, u122, u123, u124, u125, u126, u127, u128, u129, u130, u131, u132, u133, u134, u135, u136, u137, u138, u139, u140, u141, u142, u143, u144, u145, u146, u147, u148, u149, u150, u151, u152, u153, u154, u155, u156, u157, u158, u159, u160, u161, c162, c163, c164, c165, c166, c167, c168, c169, c170, c171, c172, c173, c174, c175, c176, c177, c178, c179, c180, c181, c182, c183, c184, c185, c186, c187, c188, c189, c190, c191, c192, c193, c194, c195, c196, c197, c198, c199, c200], []⟩ wr := by
  obtain ⟨ti, hi, hz0, hz1, hz2⟩ := info_parts info25
  obtain ⟨c0', c1', c2', c3', c4', c5'⟩ := hms.cells
  have MS : Hid (MSt w.heap.size w wr x v3 L) := hms
  have HW : Hid (Row8 wr a n f) := HR.later hms.below
  have hfz := hms.warm
  have hblt := back_le f p
  have HJ : Hid (∀ (k : Nat) (v qv sv r7 tv : Value) (w' : World) (u2 u9 u10 u11 u30 u31 u32 u33 u34 u35 u36 u37 u38 u39 u40 u41 u42 u43 u44 u45 u46 u47 u48 u49 u50 u51 u52 u53 u54 u55 u56 u57 u58 u59 u60 u61 u62 u63 u64 u65 u66 u67 u68 u69 u70 u71 u72 u73 u74 u75 u76 u77 u78 u79 u80 u81 u82 u83 u84 u85 u86 u87 u88 u89 u90 u91 u92 u93 u94 u95 u96 u97 u98 u99 u100 u101 u102 u103 u104 u105 u106 u107 u108 u109 u110 u111 u112 u113 u114 u115 u116 u117 u118 u119 u120 u121 u122 u123 u124 u125 u126 u127 u128 u129 u130 u131 u132 u133 u134 u135 u136 u137 u138 u139 u140 u141 u142 u143 u144 u145 u146 u147 u148 u149 u150 u151 u152 u153 u154 u155 u156 u157 u158 u159 u160 u161 : Value), Rel f n total w k v qv sv r7 tv w' → J k ⟨#[.slice a n c, c1, u2, v, .pointer (some ⟨w.heap.size, 0, none⟩), qv, sv, r7, tv, u9, u10, u11, c12, c13, c14, c15, c16, c17, c18, c19, c20, c21, c22, c23, c24, c25, c26, c27, c28, c29, u30, u31, u32, u33, u34, u35, u36, u37, u38, u39, u40, u41, u42, u43, u44, u45, u46, u47, u48, u49, u50, u51, u52, u53, u54, u55, u56, u57, u58, u59, u60, u61, u62, u63, u64, u65, u66, u67, u68, u69, u70, u71, u72, u73, u74, u75, u76, u77, u78, u79, u80, u81, u82, u83, u84, u85, u86, u87, u88, u89, u90, u91, u92, u93, u94, u95, u96, u97, u98, u99, u100, u101, u102, u103, u104, u105, u106, u107, u108, u109, u110, u111, u112, u113, u114, u115, u116, u117, u118, u119, u120, u121, u122, u123, u124, u125, u126, u127, u128, u129, u130, u131, u132, u133, u134, u135, u136, u137, u138, u139, u140, u141, u142, u143, u144, u145, u146, u147, u148, u149, u150, u151, u152, u153, u154, u155, u156, u157, u158, u159, u160, u161, c162, c163, c164, c165, c166, c167, c168, c169, c170, c171, c172, c173, c174, c175, c176, c177, c178, c179, c180, c181, c182, c183, c184, c185, c186, c187, c188, c189, c190, c191, c192, c193, c194, c195, c196, c197, c198, c199, c200], []⟩ w') := hJ
  clear hms HR hJ
  conv => arg 2; whnf
  obtain ⟨b, off, rfl, hc⟩ := HW.out p hlt
  cases hs : sp (f p)
  · cases h1 : (f p == 47)
    · cases h2 : (f p == 62)
      · cases h3 : (f p == 61)
        · have ht : nmc (f p) = true := by simp only [nmc, hs]; simp at h1 h2 h3; simp [h1, h2, h3]
          have HZ : Hid (L ++ come f n 2 x q (p + 1) = total) := on_ HT.out (come2_on f n p x q hlt ht)
          clear HT
          go_wp2_with (first | (go_at_call 13; refine (zzSp_eq _ _).mono ?_; rintro _ _ ⟨rfl, rfl⟩))
          refine Handed.intro (3 * (n - (p + 1)) + 2) ?measure (HJ.out _ _ _ _ _ _ _ _ _ _ _ _ _ _ _ _ _ _ _ _ _ _ _ _ _ _ _ _ _ _ _ _ _ _ _ _ _ _ _ _ _ _ _ _ _ _ _ _ _ _ _ _ _ _ _ _ _ _ _ _ _ _ _ _ _ _ _ _ _ _ _ _ _ _ _ _ _ _ _ _ _ _ _ _ _ _ _ _ _ _ _ _ _ _ _ _ _ _ _ _ _ _ _ _ _ _ _ _ _ _ _ _ _ _ _ _ _ _ _ _ _ _ _ _ _ _ _ _ _ _ _ _ _ _ _ _ _ _ _ _ _ _ _ ?rel)
          case rel => exact ⟨2, x, q, p + 1, L, rfl, rfl, by rw [back_other f p hs]; go_num, by go_num, rfl, MS.out, ⟨by decide, by decide⟩, by omega, ⟨fun h => by omega, fun h => by omega⟩, HZ⟩
          case measure => rw [HG.out]; omega
        · have ht : nmc (f p) = false := by simp only [nmc, hs]; simp at h3; simp [h3]
          have HZ : Hid (L ++ come f n 3 (⟨x.s, x.n, p, p, p, p⟩ : At) q p = total) := on_ HT.out (come2_stop f n p x q hlt ht)
          clear HT
          go_wp2_with (first | (go_at_call 13; refine (zzSp_eq _ _).mono ?_; rintro _ _ ⟨rfl, rfl⟩))
          refine Handed.intro (3 * (n - p) + 1) ?measure (HJ.out _ _ _ _ _ _ _ _ _ _ _ _ _ _ _ _ _ _ _ _ _ _ _ _ _ _ _ _ _ _ _ _ _ _ _ _ _ _ _ _ _ _ _ _ _ _ _ _ _ _ _ _ _ _ _ _ _ _ _ _ _ _ _ _ _ _ _ _ _ _ _ _ _ _ _ _ _ _ _ _ _ _ _ _ _ _ _ _ _ _ _ _ _ _ _ _ _ _ _ _ _ _ _ _ _ _ _ _ _ _ _ _ _ _ _ _ _ _ _ _ _ _ _ _ _ _ _ _ _ _ _ _ _ _ _ _ _ _ _ _ _ _ _ ?rel)
          case rel => exact ⟨3, (⟨x.s, x.n, p, p, p, p⟩ : At), q, p, L, rfl, rfl, rfl, rfl, rfl, ((((MS.out.s2 p).s3 p).s4 p).s5 p), ⟨by decide, by decide⟩, by omega, ⟨fun h => by omega, fun h => by omega⟩, HZ⟩
          case measure => rw [HG.out]; omega
      · have ht : nmc (f p) = false := by simp only [nmc, hs]; simp at h2; simp [h2]
        have HZ : Hid (L ++ come f n 3 (⟨x.s, x.n, p, p, p, p⟩ : At) q p = total) := on_ HT.out (come2_stop f n p x q hlt ht)
        clear HT
        go_wp2_with (first | (go_at_call 13; refine (zzSp_eq _ _).mono ?_; rintro _ _ ⟨rfl, rfl⟩))
        refine Handed.intro (3 * (n - p) + 1) ?measure (HJ.out _ _ _ _ _ _ _ _ _ _ _ _ _ _ _ _ _ _ _ _ _ _ _ _ _ _ _ _ _ _ _ _ _ _ _ _ _ _ _ _ _ _ _ _ _ _ _ _ _ _ _ _ _ _ _ _ _ _ _ _ _ _ _ _ _ _ _ _ _ _ _ _ _ _ _ _ _ _ _ _ _ _ _ _ _ _ _ _ _ _ _ _ _ _ _ _ _ _ _ _ _ _ _ _ _ _ _ _ _ _ _ _ _ _ _ _ _ _ _ _ _ _ _ _ _ _ _ _ _ _ _ _ _ _ _ _ _ _ _ _ _ _ _ ?rel)
        case rel => exact ⟨3, (⟨x.s, x.n, p, p, p, p⟩ : At), q, p, L, rfl, rfl, rfl, rfl, rfl, ((((MS.out.s2 p).s3 p).s4 p).s5 p), ⟨by decide, by decide⟩, by omega, ⟨fun h => by omega, fun h => by omega⟩, HZ⟩
        case measure => rw [HG.out]; omega
    · have ht : nmc (f p) = false := by simp only [nmc, hs]; simp at h1; simp [h1]
      have HZ : Hid (L ++ come f n 3 (⟨x.s, x.n, p, p, p, p⟩ : At) q p = total) := on_ HT.out (come2_stop f n p x q hlt ht)
      clear HT
      go_wp2_with (first | (go_at_call 13; refine (zzSp_eq _ _).mono ?_; rintro _ _ ⟨rfl, rfl⟩))
      refine Handed.intro (3 * (n - p) + 1) ?measure (HJ.out _ _ _ _ _ _ _ _ _ _ _ _ _ _ _ _ _ _ _ _ _ _ _ _ _ _ _ _ _ _ _ _ _ _ _ _ _ _ _ _ _ _ _ _ _ _ _ _ _ _ _ _ _ _ _ _ _ _ _ _ _ _ _ _ _ _ _ _ _ _ _ _ _ _ _ _ _ _ _ _ _ _ _ _ _ _ _ _ _ _ _ _ _ _ _ _ _ _ _ _ _ _ _ _ _ _ _ _ _ _ _ _ _ _ _ _ _ _ _ _ _ _ _ _ _ _ _ _ _ _ _ _ _ _ _ _ _ _ _ _ _ _ _ ?rel)
      case rel => exact ⟨3, (⟨x.s, x.n, p, p, p, p⟩ : At), q, p, L, rfl, rfl, rfl, rfl, rfl, ((((MS.out.s2 p).s3 p).s4 p).s5 p), ⟨by decide, by decide⟩, by omega, ⟨fun h => by omega, fun h => by omega⟩, HZ⟩
      case measure => rw [HG.out]; omega
  · have ht : nmc (f p) = false := by simp only [nmc, hs]; rfl
    have HZ : Hid (L ++ come f n 3 (⟨x.s, x.n, p, p, p, p⟩ : At) q p = total) := on_ HT.out (come2_stop f n p x q hlt ht)
    clear HT
    go_wp2_with (first | (go_at_call 13; refine (zzSp_eq _ _).mono ?_; rintro _ _ ⟨rfl, rfl⟩))
    refine Handed.intro (3 * (n - p) + 1) ?measure (HJ.out _ _ _ _ _ _ _ _ _ _ _ _ _ _ _ _ _ _ _ _ _ _ _ _ _ _ _ _ _ _ _ _ _ _ _ _ _ _ _ _ _ _ _ _ _ _ _ _ _ _ _ _ _ _ _ _ _ _ _ _ _ _ _ _ _ _ _ _ _ _ _ _ _ _ _ _ _ _ _ _ _ _ _ _ _ _ _ _ _ _ _ _ _ _ _ _ _ _ _ _ _ _ _ _ _ _ _ _ _ _ _ _ _ _ _ _ _ _ _ _ _ _ _ _ _ _ _ _ _ _ _ _ _ _ _ _ _ _ _ _ _ _ _ ?rel)
    case rel => exact ⟨3, (⟨x.s, x.n, p, p, p, p⟩ : At), q, p, L, rfl, rfl, rfl, rfl, rfl, ((((MS.out.s2 p).s3 p).s4 p).s5 p), ⟨by decide, by decide⟩, by omega, ⟨fun h => by omega, fun h => by omega⟩, HZ⟩
    case measure => rw [HG.out]; omega

end Go.Proofs.Qxb6603462a.TagModel
