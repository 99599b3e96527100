import Derived.Test.Qxb6600922aLex
namespace Go.Proofs.Qxb6600922a.Lexer
open Go.ChangeShapes Go.WideShapes Go.ChangeAt Go.RowKit
open Plain Model

set_option maxRecDepth 100000 in
set_option maxHeartbeats 3200000 in
theorem loop_one (Q : Exit → Act → World → Prop) (w0 wr : World) (D q0 : Nat) (s : ByteArray) (zs : List Int) (HT : Hid (Txt s zs)) (hn : s.size ≤ 1048576) (hq0 : q0 ≤ s.size) (hS : St w0 D s wr q0)
    (x1 x2 x3 x4 x5 x6 x7 x8 x9 x10 x11 x12 x13 x14 x15 x16 x17 x18 x19 x20 x21 x22 x23 x24 x25 x26 x27 x28 x29 x30 x31 x32 x33 x34 x35 x36 x37 x38 x39 x40 x41 x42 x43 x44 x45 x46 x47 x48 x49 x50 x51 x52 x53 x54 x55 x56 x57 x58 x59 x60 x61 x62 x63 x64 x65 x66 x67 x68 x69 x70 x71 x72 x73 x74 x75 x76 x77 x78 x79 x80 x81 x82 x83 x84 x85 x86 x87 x88 x89 x90 x91 x92 x93 x94 x95 x96 x97 x98 x99 x100 x101 x102 x103 x104 x105 x106 x107 x108 x109 x110 x111 x112 x113 x114 x115 x116 x117 x118 x119 x120 x121 x122 x123 x124 x125 x126 x127 x128 x129 x130 x131 x132 x133 x134 x135 x136 x137 x138 x139 x140 x141 x142 x143 x144 x145 x146 x147 x148 x149 x150 x151 x152 x153 x154 x155 x156 x157 x158 x159 x160 x161 x162 x163 x164 x165 x166 x167 x168 x169 x170 x171 x172 x173 x174 x175 x176 x177 x178 x179 x180 x181 x182 x183 x184 x185 x186 x187 x188 x189 x190 x191 x192 x193 x194 x195 x196 x197 x198 x199 x200 x201 x202 x203 x204 x205 x206 x207 x208 x209 x210 x211 x212 x213 x214 x215 x216 x217 x218 x219 x220 : Value)
    (hQ : ∀ (t : Nat) (y9 y10 y11 y12 y13 y14 y15 y16 y17 y18 y19 y20 y21 y22 y23 y24 y25 y26 y27 y28 y29 y30 y31 y32 y33 y34 y35 y36 y37 : Value) (wx : World), t ≤ s.size → Hid (dg zs q0 = t) → St w0 D s wx t → Q .normal ⟨(.pointer (some ⟨D, 0, none⟩) :: x1 :: x2 :: x3 :: x4 :: x5 :: x6 :: x7 :: x8 :: y9 :: y10 :: y11 :: y12 :: y13 :: y14 :: y15 :: y16 :: y17 :: y18 :: y19 :: y20 :: y21 :: y22 :: y23 :: y24 :: y25 :: y26 :: y27 :: y28 :: y29 :: y30 :: y31 :: y32 :: y33 :: y34 :: y35 :: y36 :: y37 :: x38 :: x39 :: x40 :: x41 :: x42 :: x43 :: x44 :: x45 :: x46 :: x47 :: x48 :: x49 :: x50 :: x51 :: x52 :: x53 :: x54 :: x55 :: x56 :: x57 :: x58 :: x59 :: x60 :: x61 :: x62 :: x63 :: x64 :: x65 :: x66 :: x67 :: x68 :: x69 :: x70 :: x71 :: x72 :: x73 :: x74 :: x75 :: x76 :: x77 :: x78 :: x79 :: x80 :: x81 :: x82 :: x83 :: x84 :: x85 :: x86 :: x87 :: x88 :: x89 :: x90 :: x91 :: x92 :: x93 :: x94 :: x95 :: x96 :: x97 :: x98 :: x99 :: x100 :: x101 :: x102 :: x103 :: x104 :: x105 :: x106 :: x107 :: x108 :: x109 :: x110 :: x111 :: x112 :: x113 :: x114 :: x115 :: x116 :: x117 :: x118 :: x119 :: x120 :: x121 :: x122 :: x123 :: x124 :: x125 :: x126 :: x127 :: x128 :: x129 :: x130 :: x131 :: x132 :: x133 :: x134 :: x135 :: x136 :: x137 :: x138 :: x139 :: x140 :: x141 :: x142 :: x143 :: x144 :: x145 :: x146 :: x147 :: x148 :: x149 :: x150 :: x151 :: x152 :: x153 :: x154 :: x155 :: x156 :: x157 :: x158 :: x159 :: x160 :: x161 :: x162 :: x163 :: x164 :: x165 :: x166 :: x167 :: x168 :: x169 :: x170 :: x171 :: x172 :: x173 :: x174 :: x175 :: x176 :: x177 :: x178 :: x179 :: x180 :: x181 :: x182 :: x183 :: x184 :: x185 :: x186 :: x187 :: x188 :: x189 :: x190 :: x191 :: x192 :: x193 :: x194 :: x195 :: x196 :: x197 :: x198 :: x199 :: x200 :: x201 :: x202 :: x203 :: x204 :: x205 :: x206 :: x207 :: x208 :: x209 :: x210 :: x211 :: x212 :: x213 :: x214 :: x215 :: x216 :: x217 :: x218 :: x219 :: x220 :: []).toArray, []⟩ wx) :
    Code.wp Try.prog ((Try.f15.body.bind (findBlock 0)).getD .ret) Q ⟨(.pointer (some ⟨D, 0, none⟩) :: x1 :: x2 :: x3 :: x4 :: x5 :: x6 :: x7 :: x8 :: x9 :: x10 :: x11 :: x12 :: x13 :: x14 :: x15 :: x16 :: x17 :: x18 :: x19 :: x20 :: x21 :: x22 :: x23 :: x24 :: x25 :: x26 :: x27 :: x28 :: x29 :: x30 :: x31 :: x32 :: x33 :: x34 :: x35 :: x36 :: x37 :: x38 :: x39 :: x40 :: x41 :: x42 :: x43 :: x44 :: x45 :: x46 :: x47 :: x48 :: x49 :: x50 :: x51 :: x52 :: x53 :: x54 :: x55 :: x56 :: x57 :: x58 :: x59 :: x60 :: x61 :: x62 :: x63 :: x64 :: x65 :: x66 :: x67 :: x68 :: x69 :: x70 :: x71 :: x72 :: x73 :: x74 :: x75 :: x76 :: x77 :: x78 :: x79 :: x80 :: x81 :: x82 :: x83 :: x84 :: x85 :: x86 :: x87 :: x88 :: x89 :: x90 :: x91 :: x92 :: x93 :: x94 :: x95 :: x96 :: x97 :: x98 :: x99 :: x100 :: x101 :: x102 :: x103 :: x104 :: x105 :: x106 :: x107 :: x108 :: x109 :: x110 :: x111 :: x112 :: x113 :: x114 :: x115 :: x116 :: x117 :: x118 :: x119 :: x120 :: x121 :: x122 :: x123 :: x124 :: x125 :: x126 :: x127 :: x128 :: x129 :: x130 :: x131 :: x132 :: x133 :: x134 :: x135 :: x136 :: x137 :: x138 :: x139 :: x140 :: x141 :: x142 :: x143 :: x144 :: x145 :: x146 :: x147 :: x148 :: x149 :: x150 :: x151 :: x152 :: x153 :: x154 :: x155 :: x156 :: x157 :: x158 :: x159 :: x160 :: x161 :: x162 :: x163 :: x164 :: x165 :: x166 :: x167 :: x168 :: x169 :: x170 :: x171 :: x172 :: x173 :: x174 :: x175 :: x176 :: x177 :: x178 :: x179 :: x180 :: x181 :: x182 :: x183 :: x184 :: x185 :: x186 :: x187 :: x188 :: x189 :: x190 :: x191 :: x192 :: x193 :: x194 :: x195 :: x196 :: x197 :: x198 :: x199 :: x200 :: x201 :: x202 :: x203 :: x204 :: x205 :: x206 :: x207 :: x208 :: x209 :: x210 :: x211 :: x212 :: x213 :: x214 :: x215 :: x216 :: x217 :: x218 :: x219 :: x220 :: []).toArray, []⟩ wr := by
  have HQ := hid_of hQ
  clear hQ
  conv => arg 2; whnf
  go_wp2_with fail
  go_loopg [] (s.size - q0) (fun k wx => ∃ t : Nat, t ≤ s.size ∧ Hid (k = s.size - t ∧ dg zs t = dg zs q0) ∧ St w0 D s wx t)
  case atStart => exact ⟨q0, hq0, ⟨rfl, rfl⟩, hS⟩
  case round =>
    clear hS
    obtain ⟨t, htl, hK, hS2⟩ := hrel
    have c0 := hS2.src
    have c1 := hS2.pos
    have c2 := hS2.free 1
    by_cases hl : t < s.size
    · obtain ⟨c, hc⟩ : ∃ c : Nat, (s[t]'hl).toNat = c := ⟨_, rfl⟩
      have hnt := HT.out.2 (t) hl
      rw [hc] at hnt
      have HNT : Hid (nth zs (t) = (c : Int)) := hnt
      clear hnt
      have hzl : t < zs.length := by rw [HT.out.1]; exact hl
      have q1 : (t : Int) < (s.size : Int) := by omega
      by_cases hd : 48 ≤ (c : Int) ∧ (c : Int) ≤ 57
      · obtain ⟨d1, d2⟩ := hd
        have HD : Hid (dg zs (t + 1) = dg zs t) := dg_yes zs t hzl (by rw [HNT.out]; simp [dgt, d1, d2])
        go_wp2
        go_quiet ((go_at_call 18; exact Calls.quiet_of_same (dig_true _ d1 d2 _)))
        go_wp2
        go_roundg (s.size - (t + 1))
        case measure => have := hK.out.1; omega
        case rel => exact ⟨t + 1, by omega, ⟨rfl, HD.out.trans hK.out.2⟩, (hS2.drewN _).moved (t + 1)⟩
      · have hf : dgt (c : Int) = false := by simp only [dgt, Bool.and_eq_false_iff, decide_eq_false_iff_not]; omega
        have HD : Hid (dg zs t = t) := dg_no zs t hzl (by rw [HNT.out]; exact hf)
        clear hd
        go_wp2
        go_quiet ((go_at_call 18; exact Calls.quiet_of_same (dig_false _ hf _)))
        go_wp2
        exact HQ.out t _ _ _ _ _ _ _ _ _ _ _ _ _ _ _ _ _ _ _ _ _ _ _ _ _ _ _ _ _ _ htl (hK.out.2.symm.trans HD.out) (hS2.drewN _)
    · obtain rfl : t = s.size := by omega
      have HD : Hid (dg zs s.size = s.size) := by
        have e := dg_end zs
        rw [HT.out.1] at e; exact e
      clear hl
      go_wp2
      go_quiet (fail)
      go_wp2
      exact HQ.out s.size _ _ _ _ _ _ _ _ _ _ _ _ _ _ _ _ _ _ _ _ _ _ _ _ _ _ _ _ _ _ htl (hK.out.2.symm.trans HD.out) (hS2.drewN _)

set_option maxRecDepth 100000 in
set_option maxHeartbeats 3200000 in
theorem loop_two (Q : Exit → Act → World → Prop) (w0 wr : World) (D q0 : Nat) (s : ByteArray) (zs : List Int) (HT : Hid (Txt s zs)) (hn : s.size ≤ 1048576) (hq0 : q0 ≤ s.size) (hS : St w0 D s wr q0)
    (x1 x2 x3 x4 x5 x6 x7 x8 x9 x10 x11 x12 x13 x14 x15 x16 x17 x18 x19 x20 x21 x22 x23 x24 x25 x26 x27 x28 x29 x30 x31 x32 x33 x34 x35 x36 x37 x38 x39 x40 x41 x42 x43 x44 x45 x46 x47 x48 x49 x50 x51 x52 x53 x54 x55 x56 x57 x58 x59 x60 x61 x62 x63 x64 x65 x66 x67 x68 x69 x70 x71 x72 x73 x74 x75 x76 x77 x78 x79 x80 x81 x82 x83 x84 x85 x86 x87 x88 x89 x90 x91 x92 x93 x94 x95 x96 x97 x98 x99 x100 x101 x102 x103 x104 x105 x106 x107 x108 x109 x110 x111 x112 x113 x114 x115 x116 x117 x118 x119 x120 x121 x122 x123 x124 x125 x126 x127 x128 x129 x130 x131 x132 x133 x134 x135 x136 x137 x138 x139 x140 x141 x142 x143 x144 x145 x146 x147 x148 x149 x150 x151 x152 x153 x154 x155 x156 x157 x158 x159 x160 x161 x162 x163 x164 x165 x166 x167 x168 x169 x170 x171 x172 x173 x174 x175 x176 x177 x178 x179 x180 x181 x182 x183 x184 x185 x186 x187 x188 x189 x190 x191 x192 x193 x194 x195 x196 x197 x198 x199 x200 x201 x202 x203 x204 x205 x206 x207 x208 x209 x210 x211 x212 x213 x214 x215 x216 x217 x218 x219 x220 : Value)
    (hQ : ∀ (t : Nat) (y67 y68 y69 y70 y71 y72 y73 y74 y75 y76 y77 y78 y79 y80 y81 y82 y83 y84 y85 y86 y87 y88 y89 y90 y91 y92 y93 y94 y95 : Value) (wx : World), t ≤ s.size → Hid (dg zs q0 = t) → St w0 D s wx t → Q .normal ⟨(.pointer (some ⟨D, 0, none⟩) :: x1 :: x2 :: x3 :: x4 :: x5 :: x6 :: x7 :: x8 :: x9 :: x10 :: x11 :: x12 :: x13 :: x14 :: x15 :: x16 :: x17 :: x18 :: x19 :: x20 :: x21 :: x22 :: x23 :: x24 :: x25 :: x26 :: x27 :: x28 :: x29 :: x30 :: x31 :: x32 :: x33 :: x34 :: x35 :: x36 :: x37 :: x38 :: x39 :: x40 :: x41 :: x42 :: x43 :: x44 :: x45 :: x46 :: x47 :: x48 :: x49 :: x50 :: x51 :: x52 :: x53 :: x54 :: x55 :: x56 :: x57 :: x58 :: x59 :: x60 :: x61 :: x62 :: x63 :: x64 :: x65 :: x66 :: y67 :: y68 :: y69 :: y70 :: y71 :: y72 :: y73 :: y74 :: y75 :: y76 :: y77 :: y78 :: y79 :: y80 :: y81 :: y82 :: y83 :: y84 :: y85 :: y86 :: y87 :: y88 :: y89 :: y90 :: y91 :: y92 :: y93 :: y94 :: y95 :: x96 :: x97 :: x98 :: x99 :: x100 :: x101 :: x102 :: x103 :: x104 :: x105 :: x106 :: x107 :: x108 :: x109 :: x110 :: x111 :: x112 :: x113 :: x114 :: x115 :: x116 :: x117 :: x118 :: x119 :: x120 :: x121 :: x122 :: x123 :: x124 :: x125 :: x126 :: x127 :: x128 :: x129 :: x130 :: x131 :: x132 :: x133 :: x134 :: x135 :: x136 :: x137 :: x138 :: x139 :: x140 :: x141 :: x142 :: x143 :: x144 :: x145 :: x146 :: x147 :: x148 :: x149 :: x150 :: x151 :: x152 :: x153 :: x154 :: x155 :: x156 :: x157 :: x158 :: x159 :: x160 :: x161 :: x162 :: x163 :: x164 :: x165 :: x166 :: x167 :: x168 :: x169 :: x170 :: x171 :: x172 :: x173 :: x174 :: x175 :: x176 :: x177 :: x178 :: x179 :: x180 :: x181 :: x182 :: x183 :: x184 :: x185 :: x186 :: x187 :: x188 :: x189 :: x190 :: x191 :: x192 :: x193 :: x194 :: x195 :: x196 :: x197 :: x198 :: x199 :: x200 :: x201 :: x202 :: x203 :: x204 :: x205 :: x206 :: x207 :: x208 :: x209 :: x210 :: x211 :: x212 :: x213 :: x214 :: x215 :: x216 :: x217 :: x218 :: x219 :: x220 :: []).toArray, []⟩ wx) :
    Code.wp Try.prog ((Try.f15.body.bind (findBlock 2)).getD .ret) Q ⟨(.pointer (some ⟨D, 0, none⟩) :: x1 :: x2 :: x3 :: x4 :: x5 :: x6 :: x7 :: x8 :: x9 :: x10 :: x11 :: x12 :: x13 :: x14 :: x15 :: x16 :: x17 :: x18 :: x19 :: x20 :: x21 :: x22 :: x23 :: x24 :: x25 :: x26 :: x27 :: x28 :: x29 :: x30 :: x31 :: x32 :: x33 :: x34 :: x35 :: x36 :: x37 :: x38 :: x39 :: x40 :: x41 :: x42 :: x43 :: x44 :: x45 :: x46 :: x47 :: x48 :: x49 :: x50 :: x51 :: x52 :: x53 :: x54 :: x55 :: x56 :: x57 :: x58 :: x59 :: x60 :: x61 :: x62 :: x63 :: x64 :: x65 :: x66 :: x67 :: x68 :: x69 :: x70 :: x71 :: x72 :: x73 :: x74 :: x75 :: x76 :: x77 :: x78 :: x79 :: x80 :: x81 :: x82 :: x83 :: x84 :: x85 :: x86 :: x87 :: x88 :: x89 :: x90 :: x91 :: x92 :: x93 :: x94 :: x95 :: x96 :: x97 :: x98 :: x99 :: x100 :: x101 :: x102 :: x103 :: x104 :: x105 :: x106 :: x107 :: x108 :: x109 :: x110 :: x111 :: x112 :: x113 :: x114 :: x115 :: x116 :: x117 :: x118 :: x119 :: x120 :: x121 :: x122 :: x123 :: x124 :: x125 :: x126 :: x127 :: x128 :: x129 :: x130 :: x131 :: x132 :: x133 :: x134 :: x135 :: x136 :: x137 :: x138 :: x139 :: x140 :: x141 :: x142 :: x143 :: x144 :: x145 :: x146 :: x147 :: x148 :: x149 :: x150 :: x151 :: x152 :: x153 :: x154 :: x155 :: x156 :: x157 :: x158 :: x159 :: x160 :: x161 :: x162 :: x163 :: x164 :: x165 :: x166 :: x167 :: x168 :: x169 :: x170 :: x171 :: x172 :: x173 :: x174 :: x175 :: x176 :: x177 :: x178 :: x179 :: x180 :: x181 :: x182 :: x183 :: x184 :: x185 :: x186 :: x187 :: x188 :: x189 :: x190 :: x191 :: x192 :: x193 :: x194 :: x195 :: x196 :: x197 :: x198 :: x199 :: x200 :: x201 :: x202 :: x203 :: x204 :: x205 :: x206 :: x207 :: x208 :: x209 :: x210 :: x211 :: x212 :: x213 :: x214 :: x215 :: x216 :: x217 :: x218 :: x219 :: x220 :: []).toArray, []⟩ wr := by
  have HQ := hid_of hQ
  clear hQ
  conv => arg 2; whnf
  go_wp2_with fail
  go_loopg [] (s.size - q0) (fun k wx => ∃ t : Nat, t ≤ s.size ∧ Hid (k = s.size - t ∧ dg zs t = dg zs q0) ∧ St w0 D s wx t)
  case atStart => exact ⟨q0, hq0, ⟨rfl, rfl⟩, hS⟩
  case round =>
    clear hS
    obtain ⟨t, htl, hK, hS2⟩ := hrel
    have c0 := hS2.src
    have c1 := hS2.pos
    have c2 := hS2.free 1
    by_cases hl : t < s.size
    · obtain ⟨c, hc⟩ : ∃ c : Nat, (s[t]'hl).toNat = c := ⟨_, rfl⟩
      have hnt := HT.out.2 (t) hl
      rw [hc] at hnt
      have HNT : Hid (nth zs (t) = (c : Int)) := hnt
      clear hnt
      have hzl : t < zs.length := by rw [HT.out.1]; exact hl
      have q1 : (t : Int) < (s.size : Int) := by omega
      by_cases hd : 48 ≤ (c : Int) ∧ (c : Int) ≤ 57
      · obtain ⟨d1, d2⟩ := hd
        have HD : Hid (dg zs (t + 1) = dg zs t) := dg_yes zs t hzl (by rw [HNT.out]; simp [dgt, d1, d2])
        go_wp2
        go_quiet ((go_at_call 18; exact Calls.quiet_of_same (dig_true _ d1 d2 _)))
        go_wp2
        go_roundg (s.size - (t + 1))
        case measure => have := hK.out.1; omega
        case rel => exact ⟨t + 1, by omega, ⟨rfl, HD.out.trans hK.out.2⟩, (hS2.drewN _).moved (t + 1)⟩
      · have hf : dgt (c : Int) = false := by simp only [dgt, Bool.and_eq_false_iff, decide_eq_false_iff_not]; omega
        have HD : Hid (dg zs t = t) := dg_no zs t hzl (by rw [HNT.out]; exact hf)
        clear hd
        go_wp2
        go_quiet ((go_at_call 18; exact Calls.quiet_of_same (dig_false _ hf _)))
        go_wp2
        exact HQ.out t _ _ _ _ _ _ _ _ _ _ _ _ _ _ _ _ _ _ _ _ _ _ _ _ _ _ _ _ _ _ htl (hK.out.2.symm.trans HD.out) (hS2.drewN _)
    · obtain rfl : t = s.size := by omega
      have HD : Hid (dg zs s.size = s.size) := by
        have e := dg_end zs
        rw [HT.out.1] at e; exact e
      clear hl
      go_wp2
      go_quiet (fail)
      go_wp2
      exact HQ.out s.size _ _ _ _ _ _ _ _ _ _ _ _ _ _ _ _ _ _ _ _ _ _ _ _ _ _ _ _ _ _ htl (hK.out.2.symm.trans HD.out) (hS2.drewN _)

set_option maxRecDepth 100000 in
set_option maxHeartbeats 3200000 in
theorem loop_three (Q : Exit → Act → World → Prop) (w0 wr : World) (D q0 : Nat) (s : ByteArray) (zs : List Int) (HT : Hid (Txt s zs)) (hn : s.size ≤ 1048576) (hq0 : q0 ≤ s.size) (hS : St w0 D s wr q0)
    (x1 x2 x3 x4 x5 x6 x7 x8 x9 x10 x11 x12 x13 x14 x15 x16 x17 x18 x19 x20 x21 x22 x23 x24 x25 x26 x27 x28 x29 x30 x31 x32 x33 x34 x35 x36 x37 x38 x39 x40 x41 x42 x43 x44 x45 x46 x47 x48 x49 x50 x51 x52 x53 x54 x55 x56 x57 x58 x59 x60 x61 x62 x63 x64 x65 x66 x67 x68 x69 x70 x71 x72 x73 x74 x75 x76 x77 x78 x79 x80 x81 x82 x83 x84 x85 x86 x87 x88 x89 x90 x91 x92 x93 x94 x95 x96 x97 x98 x99 x100 x101 x102 x103 x104 x105 x106 x107 x108 x109 x110 x111 x112 x113 x114 x115 x116 x117 x118 x119 x120 x121 x122 x123 x124 x125 x126 x127 x128 x129 x130 x131 x132 x133 x134 x135 x136 x137 x138 x139 x140 x141 x142 x143 x144 x145 x146 x147 x148 x149 x150 x151 x152 x153 x154 x155 x156 x157 x158 x159 x160 x161 x162 x163 x164 x165 x166 x167 x168 x169 x170 x171 x172 x173 x174 x175 x176 x177 x178 x179 x180 x181 x182 x183 x184 x185 x186 x187 x188 x189 x190 x191 x192 x193 x194 x195 x196 x197 x198 x199 x200 x201 x202 x203 x204 x205 x206 x207 x208 x209 x210 x211 x212 x213 x214 x215 x216 x217 x218 x219 x220 : Value)
    (hQ : ∀ (t : Nat) (y182 y183 y184 y185 y186 y187 y188 y189 y190 y191 y192 y193 y194 y195 y196 y197 y198 y199 y200 y201 y202 y203 y204 y205 y206 y207 y208 y209 y210 : Value) (wx : World), t ≤ s.size → Hid (dg zs q0 = t) → St w0 D s wx t → Q .normal ⟨(.pointer (some ⟨D, 0, none⟩) :: x1 :: x2 :: x3 :: x4 :: x5 :: x6 :: x7 :: x8 :: x9 :: x10 :: x11 :: x12 :: x13 :: x14 :: x15 :: x16 :: x17 :: x18 :: x19 :: x20 :: x21 :: x22 :: x23 :: x24 :: x25 :: x26 :: x27 :: x28 :: x29 :: x30 :: x31 :: x32 :: x33 :: x34 :: x35 :: x36 :: x37 :: x38 :: x39 :: x40 :: x41 :: x42 :: x43 :: x44 :: x45 :: x46 :: x47 :: x48 :: x49 :: x50 :: x51 :: x52 :: x53 :: x54 :: x55 :: x56 :: x57 :: x58 :: x59 :: x60 :: x61 :: x62 :: x63 :: x64 :: x65 :: x66 :: x67 :: x68 :: x69 :: x70 :: x71 :: x72 :: x73 :: x74 :: x75 :: x76 :: x77 :: x78 :: x79 :: x80 :: x81 :: x82 :: x83 :: x84 :: x85 :: x86 :: x87 :: x88 :: x89 :: x90 :: x91 :: x92 :: x93 :: x94 :: x95 :: x96 :: x97 :: x98 :: x99 :: x100 :: x101 :: x102 :: x103 :: x104 :: x105 :: x106 :: x107 :: x108 :: x109 :: x110 :: x111 :: x112 :: x113 :: x114 :: x115 :: x116 :: x117 :: x118 :: x119 :: x120 :: x121 :: x122 :: x123 :: x124 :: x125 :: x126 :: x127 :: x128 :: x129 :: x130 :: x131 :: x132 :: x133 :: x134 :: x135 :: x136 :: x137 :: x138 :: x139 :: x140 :: x141 :: x142 :: x143 :: x144 :: x145 :: x146 :: x147 :: x148 :: x149 :: x150 :: x151 :: x152 :: x153 :: x154 :: x155 :: x156 :: x157 :: x158 :: x159 :: x160 :: x161 :: x162 :: x163 :: x164 :: x165 :: x166 :: x167 :: x168 :: x169 :: x170 :: x171 :: x172 :: x173 :: x174 :: x175 :: x176 :: x177 :: x178 :: x179 :: x180 :: x181 :: y182 :: y183 :: y184 :: y185 :: y186 :: y187 :: y188 :: y189 :: y190 :: y191 :: y192 :: y193 :: y194 :: y195 :: y196 :: y197 :: y198 :: y199 :: y200 :: y201 :: y202 :: y203 :: y204 :: y205 :: y206 :: y207 :: y208 :: y209 :: y210 :: x211 :: x212 :: x213 :: x214 :: x215 :: x216 :: x217 :: x218 :: x219 :: x220 :: []).toArray, []⟩ wx) :
    Code.wp Try.prog ((Try.f15.body.bind (findBlock 4)).getD .ret) Q ⟨(.pointer (some ⟨D, 0, none⟩) :: x1 :: x2 :: x3 :: x4 :: x5 :: x6 :: x7 :: x8 :: x9 :: x10 :: x11 :: x12 :: x13 :: x14 :: x15 :: x16 :: x17 :: x18 :: x19 :: x20 :: x21 :: x22 :: x23 :: x24 :: x25 :: x26 :: x27 :: x28 :: x29 :: x30 :: x31 :: x32 :: x33 :: x34 :: x35 :: x36 :: x37 :: x38 :: x39 :: x40 :: x41 :: x42 :: x43 :: x44 :: x45 :: x46 :: x47 :: x48 :: x49 :: x50 :: x51 :: x52 :: x53 :: x54 :: x55 :: x56 :: x57 :: x58 :: x59 :: x60 :: x61 :: x62 :: x63 :: x64 :: x65 :: x66 :: x67 :: x68 :: x69 :: x70 :: x71 :: x72 :: x73 :: x74 :: x75 :: x76 :: x77 :: x78 :: x79 :: x80 :: x81 :: x82 :: x83 :: x84 :: x85 :: x86 :: x87 :: x88 :: x89 :: x90 :: x91 :: x92 :: x93 :: x94 :: x95 :: x96 :: x97 :: x98 :: x99 :: x100 :: x101 :: x102 :: x103 :: x104 :: x105 :: x106 :: x107 :: x108 :: x109 :: x110 :: x111 :: x112 :: x113 :: x114 :: x115 :: x116 :: x117 :: x118 :: x119 :: x120 :: x121 :: x122 :: x123 :: x124 :: x125 :: x126 :: x127 :: x128 :: x129 :: x130 :: x131 :: x132 :: x133 :: x134 :: x135 :: x136 :: x137 :: x138 :: x139 :: x140 :: x141 :: x142 :: x143 :: x144 :: x145 :: x146 :: x147 :: x148 :: x149 :: x150 :: x151 :: x152 :: x153 :: x154 :: x155 :: x156 :: x157 :: x158 :: x159 :: x160 :: x161 :: x162 :: x163 :: x164 :: x165 :: x166 :: x167 :: x168 :: x169 :: x170 :: x171 :: x172 :: x173 :: x174 :: x175 :: x176 :: x177 :: x178 :: x179 :: x180 :: x181 :: x182 :: x183 :: x184 :: x185 :: x186 :: x187 :: x188 :: x189 :: x190 :: x191 :: x192 :: x193 :: x194 :: x195 :: x196 :: x197 :: x198 :: x199 :: x200 :: x201 :: x202 :: x203 :: x204 :: x205 :: x206 :: x207 :: x208 :: x209 :: x210 :: x211 :: x212 :: x213 :: x214 :: x215 :: x216 :: x217 :: x218 :: x219 :: x220 :: []).toArray, []⟩ wr := by
  have HQ := hid_of hQ
  clear hQ
  conv => arg 2; whnf
  go_wp2_with fail
  go_loopg [] (s.size - q0) (fun k wx => ∃ t : Nat, t ≤ s.size ∧ Hid (k = s.size - t ∧ dg zs t = dg zs q0) ∧ St w0 D s wx t)
  case atStart => exact ⟨q0, hq0, ⟨rfl, rfl⟩, hS⟩
  case round =>
    clear hS
    obtain ⟨t, htl, hK, hS2⟩ := hrel
    have c0 := hS2.src
    have c1 := hS2.pos
    have c2 := hS2.free 1
    by_cases hl : t < s.size
    · obtain ⟨c, hc⟩ : ∃ c : Nat, (s[t]'hl).toNat = c := ⟨_, rfl⟩
      have hnt := HT.out.2 (t) hl
      rw [hc] at hnt
      have HNT : Hid (nth zs (t) = (c : Int)) := hnt
      clear hnt
      have hzl : t < zs.length := by rw [HT.out.1]; exact hl
      have q1 : (t : Int) < (s.size : Int) := by omega
      by_cases hd : 48 ≤ (c : Int) ∧ (c : Int) ≤ 57
      · obtain ⟨d1, d2⟩ := hd
        have HD : Hid (dg zs (t + 1) = dg zs t) := dg_yes zs t hzl (by rw [HNT.out]; simp [dgt, d1, d2])
        go_wp2
        go_quiet ((go_at_call 18; exact Calls.quiet_of_same (dig_true _ d1 d2 _)))
        go_wp2
        go_roundg (s.size - (t + 1))
        case measure => have := hK.out.1; omega
        case rel => exact ⟨t + 1, by omega, ⟨rfl, HD.out.trans hK.out.2⟩, (hS2.drewN _).moved (t + 1)⟩
      · have hf : dgt (c : Int) = false := by simp only [dgt, Bool.and_eq_false_iff, decide_eq_false_iff_not]; omega
        have HD : Hid (dg zs t = t) := dg_no zs t hzl (by rw [HNT.out]; exact hf)
        clear hd
        go_wp2
        go_quiet ((go_at_call 18; exact Calls.quiet_of_same (dig_false _ hf _)))
        go_wp2
        exact HQ.out t _ _ _ _ _ _ _ _ _ _ _ _ _ _ _ _ _ _ _ _ _ _ _ _ _ _ _ _ _ _ htl (hK.out.2.symm.trans HD.out) (hS2.drewN _)
    · obtain rfl : t = s.size := by omega
      have HD : Hid (dg zs s.size = s.size) := by
        have e := dg_end zs
        rw [HT.out.1] at e; exact e
      clear hl
      go_wp2
      go_quiet (fail)
      go_wp2
      exact HQ.out s.size _ _ _ _ _ _ _ _ _ _ _ _ _ _ _ _ _ _ _ _ _ _ _ _ _ _ _ _ _ _ htl (hK.out.2.symm.trans HD.out) (hS2.drewN _)

end Go.Proofs.Qxb6600922a.Lexer
