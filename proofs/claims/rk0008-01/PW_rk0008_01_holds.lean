import PyProof.Rows.All
import Wide.All
import OpenK.AllK
import Wide.FinOn
import PySem.Challenge.RW_rk0008_01
set_option Elab.async false
set_option compiler.extract_closed false
set_option linter.unusedVariables false
set_option linter.unusedSimpArgs false
set_option genInjectivity false
set_option genSizeOf false
section
open PySem PySem.W PyProof.Rows
set_option maxRecDepth 100000
set_option maxHeartbeats 8000000
-- These rows take the names under which the head's tool would lay twin equations of the head's constants (99 MB, compiled): it then lays none and goes its plain way.
-- Nothing behind the theorem leans on the names that they declare.
name_quick tw10010936943081839664 for PySem.W.S.findZ by PySem.W.S.findZ_eq
name_quick tw10015664371746657536 for PySem.W.S.findZ by PySem.W.S.findZ_eq
name_quick tw10029231156530900338 for PySem.W.S.findZ by PySem.W.S.findZ_eq
name_quick tw10057510723706494237 for PySem.W.S.findZ by PySem.W.S.findZ_eq
name_quick tw10073347824450446311 for PySem.W.S.findZ by PySem.W.S.findZ_eq
name_quick tw10205541121877940668 for PySem.W.S.findZ by PySem.W.S.findZ_eq
name_quick tw10227693086864044499 for PySem.W.S.findZ by PySem.W.S.findZ_eq
name_quick tw10262943654017269364 for PySem.W.S.findZ by PySem.W.S.findZ_eq
name_quick tw10314498396905981064 for PySem.W.S.findZ by PySem.W.S.findZ_eq
name_quick tw10317580896714288900 for PySem.W.S.findZ by PySem.W.S.findZ_eq
name_quick tw10323183001455561277 for PySem.W.S.findZ by PySem.W.S.findZ_eq
name_quick tw10379131730601215995 for PySem.W.S.findZ by PySem.W.S.findZ_eq
name_quick tw10424941004445345732 for PySem.W.S.findZ by PySem.W.S.findZ_eq
name_quick tw10470071008263537045 for PySem.W.S.findZ by PySem.W.S.findZ_eq
name_quick tw10500077913531017323 for PySem.W.S.findZ by PySem.W.S.findZ_eq
name_quick tw10528696920762540405 for PySem.W.S.findZ by PySem.W.S.findZ_eq
name_quick tw1055568401681811165 for PySem.W.S.findZ by PySem.W.S.findZ_eq
name_quick tw10670733350059645105 for PySem.W.S.findZ by PySem.W.S.findZ_eq
name_quick tw10706342367453228570 for PySem.W.S.findZ by PySem.W.S.findZ_eq
name_quick tw10833955939284561965 for PySem.W.S.findZ by PySem.W.S.findZ_eq
name_quick tw10887116778572429059 for PySem.W.S.findZ by PySem.W.S.findZ_eq
name_quick tw10919533547850550483 for PySem.W.S.findZ by PySem.W.S.findZ_eq
name_quick tw1092655722715705105 for PySem.W.S.findZ by PySem.W.S.findZ_eq
name_quick tw10944729642247514566 for PySem.W.S.findZ by PySem.W.S.findZ_eq
name_quick tw10948738476641704880 for PySem.W.S.findZ by PySem.W.S.findZ_eq
name_quick tw10996506086634736982 for PySem.W.S.findZ by PySem.W.S.findZ_eq
name_quick tw11108263761283441063 for PySem.W.S.findZ by PySem.W.S.findZ_eq
name_quick tw11130039905162102590 for PySem.W.S.findZ by PySem.W.S.findZ_eq
name_quick tw11161088081135249708 for PySem.W.S.findZ by PySem.W.S.findZ_eq
name_quick tw11186114360453789277 for PySem.W.S.findZ by PySem.W.S.findZ_eq
name_quick tw11270796479367742343 for PySem.W.S.findZ by PySem.W.S.findZ_eq
name_quick tw11277716924127702174 for PySem.W.S.findZ by PySem.W.S.findZ_eq
name_quick tw11306939235166856333 for PySem.W.S.findZ by PySem.W.S.findZ_eq
name_quick tw11310463157757771331 for PySem.W.S.findZ by PySem.W.S.findZ_eq
name_quick tw11317593695737139937 for PySem.W.S.findZ by PySem.W.S.findZ_eq
name_quick tw11333186260410459676 for PySem.W.S.findZ by PySem.W.S.findZ_eq
name_quick tw11420187438672877268 for PySem.W.S.findZ by PySem.W.S.findZ_eq
name_quick tw11445135464325071761 for PySem.W.S.findZ by PySem.W.S.findZ_eq
name_quick tw11452132507678324671 for PySem.W.S.findZ by PySem.W.S.findZ_eq
name_quick tw11519604305632133818 for PySem.W.S.findZ by PySem.W.S.findZ_eq
name_quick tw11543547407058413889 for PySem.W.S.findZ by PySem.W.S.findZ_eq
name_quick tw1156252341971683116 for PySem.W.S.findZ by PySem.W.S.findZ_eq
name_quick tw11566699232636054958 for PySem.W.S.findZ by PySem.W.S.findZ_eq
name_quick tw11625766737575182897 for PySem.W.S.findZ by PySem.W.S.findZ_eq
name_quick tw11636919720809706868 for PySem.W.S.findZ by PySem.W.S.findZ_eq
name_quick tw11707433790658880453 for PySem.W.S.findZ by PySem.W.S.findZ_eq
name_quick tw117213463901210413 for PySem.W.S.findZ by PySem.W.S.findZ_eq
name_quick tw11729385059970357855 for PySem.W.S.findZ by PySem.W.S.findZ_eq
name_quick tw11740888236361828772 for PySem.W.S.findZ by PySem.W.S.findZ_eq
name_quick tw11788150170368784547 for PySem.W.S.findZ by PySem.W.S.findZ_eq
name_quick tw11796506867022685745 for PySem.W.S.findZ by PySem.W.S.findZ_eq
name_quick tw11817470609975844035 for PySem.W.S.findZ by PySem.W.S.findZ_eq
name_quick tw11838138170533393997 for PySem.W.S.findZ by PySem.W.S.findZ_eq
name_quick tw1184552218554016812 for PySem.W.S.findZ by PySem.W.S.findZ_eq
name_quick tw11853533878840232495 for PySem.W.S.findZ by PySem.W.S.findZ_eq
name_quick tw11863081143760314161 for PySem.W.S.findZ by PySem.W.S.findZ_eq
name_quick tw11892598404827812706 for PySem.W.S.findZ by PySem.W.S.findZ_eq
name_quick tw11957962974430299695 for PySem.W.S.findZ by PySem.W.S.findZ_eq
name_quick tw11964429278604863157 for PySem.W.S.findZ by PySem.W.S.findZ_eq
name_quick tw11985326045990495214 for PySem.W.S.findZ by PySem.W.S.findZ_eq
name_quick tw11994158751524154303 for PySem.W.S.findZ by PySem.W.S.findZ_eq
name_quick tw12022618010286034681 for PySem.W.S.findZ by PySem.W.S.findZ_eq
name_quick tw1204117194425446250 for PySem.W.S.findZ by PySem.W.S.findZ_eq
name_quick tw12172078356533094185 for PySem.W.S.findZ by PySem.W.S.findZ_eq
name_quick tw12177639751122801600 for PySem.W.S.findZ by PySem.W.S.findZ_eq
name_quick tw1218959903707654005 for PySem.W.S.findZ by PySem.W.S.findZ_eq
name_quick tw12224578244612797663 for PySem.W.S.findZ by PySem.W.S.findZ_eq
name_quick tw12233582284571471492 for PySem.W.S.findZ by PySem.W.S.findZ_eq
name_quick tw12268644228514654432 for PySem.W.S.findZ by PySem.W.S.findZ_eq
name_quick tw12290603225136948437 for PySem.W.S.findZ by PySem.W.S.findZ_eq
name_quick tw12299743096253456131 for PySem.W.S.findZ by PySem.W.S.findZ_eq
name_quick tw12329403913580668285 for PySem.W.S.findZ by PySem.W.S.findZ_eq
name_quick tw12392613427281201732 for PySem.W.S.findZ by PySem.W.S.findZ_eq
name_quick tw12393455550290869266 for PySem.W.S.findZ by PySem.W.S.findZ_eq
name_quick tw12450158673883907302 for PySem.W.S.findZ by PySem.W.S.findZ_eq
name_quick tw1258299570235058372 for PySem.W.S.findZ by PySem.W.S.findZ_eq
name_quick tw12635297910168745909 for PySem.W.S.findZ by PySem.W.S.findZ_eq
name_quick tw12635813782599140982 for PySem.W.S.findZ by PySem.W.S.findZ_eq
name_quick tw12647630874787467225 for PySem.W.S.findZ by PySem.W.S.findZ_eq
name_quick tw12659028871203227004 for PySem.W.S.findZ by PySem.W.S.findZ_eq
name_quick tw12702474577746417171 for PySem.W.S.findZ by PySem.W.S.findZ_eq
name_quick tw12726346659333912481 for PySem.W.S.findZ by PySem.W.S.findZ_eq
name_quick tw12734952128020822468 for PySem.W.S.findZ by PySem.W.S.findZ_eq
name_quick tw12813236842856870187 for PySem.W.S.findZ by PySem.W.S.findZ_eq
name_quick tw12821735335276811757 for PySem.W.S.findZ by PySem.W.S.findZ_eq
name_quick tw12825359941727978080 for PySem.W.S.findZ by PySem.W.S.findZ_eq
name_quick tw12832477231654346042 for PySem.W.S.findZ by PySem.W.S.findZ_eq
name_quick tw12850107946570832962 for PySem.W.S.findZ by PySem.W.S.findZ_eq
name_quick tw12866136484021002089 for PySem.W.S.findZ by PySem.W.S.findZ_eq
name_quick tw12896934618165308513 for PySem.W.S.findZ by PySem.W.S.findZ_eq
name_quick tw12898947447245864913 for PySem.W.S.findZ by PySem.W.S.findZ_eq
name_quick tw1291980286583624508 for PySem.W.S.findZ by PySem.W.S.findZ_eq
name_quick tw12945451867199242903 for PySem.W.S.findZ by PySem.W.S.findZ_eq
name_quick tw13002492023102617099 for PySem.W.S.findZ by PySem.W.S.findZ_eq
name_quick tw13016732220969518872 for PySem.W.S.findZ by PySem.W.S.findZ_eq
name_quick tw13036272033356848781 for PySem.W.S.findZ by PySem.W.S.findZ_eq
name_quick tw13180171748994924942 for PySem.W.S.findZ by PySem.W.S.findZ_eq
name_quick tw1320183511955256522 for PySem.W.S.findZ by PySem.W.S.findZ_eq
name_quick tw13215998728584607739 for PySem.W.S.findZ by PySem.W.S.findZ_eq
name_quick tw13236226663087606529 for PySem.W.S.findZ by PySem.W.S.findZ_eq
name_quick tw13254397897704925713 for PySem.W.S.findZ by PySem.W.S.findZ_eq
name_quick tw13314330512976039754 for PySem.W.S.findZ by PySem.W.S.findZ_eq
name_quick tw13317431791736044220 for PySem.W.S.findZ by PySem.W.S.findZ_eq
name_quick tw1333364371103165705 for PySem.W.S.findZ by PySem.W.S.findZ_eq
name_quick tw13335737130258781183 for PySem.W.S.findZ by PySem.W.S.findZ_eq
name_quick tw13496564725613916313 for PySem.W.S.findZ by PySem.W.S.findZ_eq
name_quick tw13512673800721320934 for PySem.W.S.findZ by PySem.W.S.findZ_eq
name_quick tw13526986893379352335 for PySem.W.S.findZ by PySem.W.S.findZ_eq
name_quick tw1355338860687761863 for PySem.W.S.findZ by PySem.W.S.findZ_eq
name_quick tw13559156169165276386 for PySem.W.S.findZ by PySem.W.S.findZ_eq
name_quick tw13607416678640721797 for PySem.W.S.findZ by PySem.W.S.findZ_eq
name_quick tw13615603153576403970 for PySem.W.S.findZ by PySem.W.S.findZ_eq
name_quick tw13640514254501968386 for PySem.W.S.findZ by PySem.W.S.findZ_eq
name_quick tw13642483538084851733 for PySem.W.S.findZ by PySem.W.S.findZ_eq
name_quick tw13678640442995254988 for PySem.W.S.findZ by PySem.W.S.findZ_eq
name_quick tw1370275717833778536 for PySem.W.S.findZ by PySem.W.S.findZ_eq
name_quick tw13759679279233594173 for PySem.W.S.findZ by PySem.W.S.findZ_eq
name_quick tw1377046205977697930 for PySem.W.S.findZ by PySem.W.S.findZ_eq
name_quick tw13776390136698705113 for PySem.W.S.findZ by PySem.W.S.findZ_eq
name_quick tw13900631225919944168 for PySem.W.S.findZ by PySem.W.S.findZ_eq
name_quick tw13912434898499826684 for PySem.W.S.findZ by PySem.W.S.findZ_eq
name_quick tw13915792640404377917 for PySem.W.S.findZ by PySem.W.S.findZ_eq
name_quick tw13981391230805400906 for PySem.W.S.findZ by PySem.W.S.findZ_eq
name_quick tw13987355940573415152 for PySem.W.S.findZ by PySem.W.S.findZ_eq
name_quick tw14023627001141898710 for PySem.W.S.findZ by PySem.W.S.findZ_eq
name_quick tw14073706353221006472 for PySem.W.S.findZ by PySem.W.S.findZ_eq
name_quick tw14108194823987119177 for PySem.W.S.findZ by PySem.W.S.findZ_eq
name_quick tw14112274594779413971 for PySem.W.S.findZ by PySem.W.S.findZ_eq
name_quick tw14126943448341045398 for PySem.W.S.findZ by PySem.W.S.findZ_eq
name_quick tw1414301608579184545 for PySem.W.S.findZ by PySem.W.S.findZ_eq
name_quick tw14168537005229113720 for PySem.W.S.findZ by PySem.W.S.findZ_eq
name_quick tw1419416864934026935 for PySem.W.S.findZ by PySem.W.S.findZ_eq
name_quick tw14210447440969649564 for PySem.W.S.findZ by PySem.W.S.findZ_eq
name_quick tw14213472795030965493 for PySem.W.S.findZ by PySem.W.S.findZ_eq
name_quick tw14214133299417103183 for PySem.W.S.findZ by PySem.W.S.findZ_eq
name_quick tw14214894240641447287 for PySem.W.S.findZ by PySem.W.S.findZ_eq
name_quick tw14223099787259518943 for PySem.W.S.findZ by PySem.W.S.findZ_eq
name_quick tw14224011070414065920 for PySem.W.S.findZ by PySem.W.S.findZ_eq
name_quick tw14305139224198610471 for PySem.W.S.findZ by PySem.W.S.findZ_eq
name_quick tw14311459727803291754 for PySem.W.S.findZ by PySem.W.S.findZ_eq
name_quick tw14326252917377295143 for PySem.W.S.findZ by PySem.W.S.findZ_eq
name_quick tw14333388528381170442 for PySem.W.S.findZ by PySem.W.S.findZ_eq
name_quick tw14386061602966655976 for PySem.W.S.findZ by PySem.W.S.findZ_eq
name_quick tw14433975572909055671 for PySem.W.S.findZ by PySem.W.S.findZ_eq
name_quick tw14535685388179086665 for PySem.W.S.findZ by PySem.W.S.findZ_eq
name_quick tw14778209649434054790 for PySem.W.S.findZ by PySem.W.S.findZ_eq
name_quick tw14821650378409806113 for PySem.W.S.findZ by PySem.W.S.findZ_eq
name_quick tw14834023430324568649 for PySem.W.S.findZ by PySem.W.S.findZ_eq
name_quick tw14884601019740666482 for PySem.W.S.findZ by PySem.W.S.findZ_eq
name_quick tw14896874001708588922 for PySem.W.S.findZ by PySem.W.S.findZ_eq
name_quick tw14971970265804392439 for PySem.W.S.findZ by PySem.W.S.findZ_eq
name_quick tw14979626087600564940 for PySem.W.S.findZ by PySem.W.S.findZ_eq
name_quick tw15007238320947547705 for PySem.W.S.findZ by PySem.W.S.findZ_eq
name_quick tw1503297043503765363 for PySem.W.S.findZ by PySem.W.S.findZ_eq
name_quick tw15034313371233782410 for PySem.W.S.findZ by PySem.W.S.findZ_eq
name_quick tw15066959818950650227 for PySem.W.S.findZ by PySem.W.S.findZ_eq
name_quick tw15079194523842364033 for PySem.W.S.findZ by PySem.W.S.findZ_eq
name_quick tw15112985482279097393 for PySem.W.S.findZ by PySem.W.S.findZ_eq
name_quick tw15168306246750427876 for PySem.W.S.findZ by PySem.W.S.findZ_eq
name_quick tw151948405760981731 for PySem.W.S.findZ by PySem.W.S.findZ_eq
name_quick tw15195428891847259777 for PySem.W.S.findZ by PySem.W.S.findZ_eq
name_quick tw15263041282635125899 for PySem.W.S.findZ by PySem.W.S.findZ_eq
name_quick tw15278061642289888581 for PySem.W.S.findZ by PySem.W.S.findZ_eq
name_quick tw15376083050721069600 for PySem.W.S.findZ by PySem.W.S.findZ_eq
name_quick tw15423634916342008072 for PySem.W.S.findZ by PySem.W.S.findZ_eq
name_quick tw15450981722951097364 for PySem.W.S.findZ by PySem.W.S.findZ_eq
name_quick tw15480198773659482676 for PySem.W.S.findZ by PySem.W.S.findZ_eq
name_quick tw15490439104401381959 for PySem.W.S.findZ by PySem.W.S.findZ_eq
name_quick tw15542503528162795033 for PySem.W.S.findZ by PySem.W.S.findZ_eq
name_quick tw15560853006256673968 for PySem.W.S.findZ by PySem.W.S.findZ_eq
name_quick tw15562837088269578035 for PySem.W.S.findZ by PySem.W.S.findZ_eq
name_quick tw15742981410569661332 for PySem.W.S.findZ by PySem.W.S.findZ_eq
name_quick tw1574873078441994576 for PySem.W.S.findZ by PySem.W.S.findZ_eq
name_quick tw15823609455315575823 for PySem.W.S.findZ by PySem.W.S.findZ_eq
name_quick tw15894407043143930727 for PySem.W.S.findZ by PySem.W.S.findZ_eq
name_quick tw15900120412870309639 for PySem.W.S.findZ by PySem.W.S.findZ_eq
name_quick tw15902184279288820625 for PySem.W.S.findZ by PySem.W.S.findZ_eq
name_quick tw15919542637913265678 for PySem.W.S.findZ by PySem.W.S.findZ_eq
name_quick tw15980859228951719591 for PySem.W.S.findZ by PySem.W.S.findZ_eq
name_quick tw16018607276475445134 for PySem.W.S.findZ by PySem.W.S.findZ_eq
name_quick tw16049961110935095269 for PySem.W.S.findZ by PySem.W.S.findZ_eq
name_quick tw16145008321745377990 for PySem.W.S.findZ by PySem.W.S.findZ_eq
name_quick tw16176465441171805009 for PySem.W.S.findZ by PySem.W.S.findZ_eq
name_quick tw1617757218408452269 for PySem.W.S.findZ by PySem.W.S.findZ_eq
name_quick tw16180582048198870337 for PySem.W.S.findZ by PySem.W.S.findZ_eq
name_quick tw1620339239838986703 for PySem.W.S.findZ by PySem.W.S.findZ_eq
name_quick tw16214148842636244229 for PySem.W.S.findZ by PySem.W.S.findZ_eq
name_quick tw16241802466949684156 for PySem.W.S.findZ by PySem.W.S.findZ_eq
name_quick tw16296994325663420285 for PySem.W.S.findZ by PySem.W.S.findZ_eq
name_quick tw16339471991904476338 for PySem.W.S.findZ by PySem.W.S.findZ_eq
name_quick tw16349216596472256690 for PySem.W.S.findZ by PySem.W.S.findZ_eq
name_quick tw16349804527192203551 for PySem.W.S.findZ by PySem.W.S.findZ_eq
name_quick tw16350708796919097252 for PySem.W.S.findZ by PySem.W.S.findZ_eq
name_quick tw16374537267813192141 for PySem.W.S.findZ by PySem.W.S.findZ_eq
name_quick tw1638017585896720355 for PySem.W.S.findZ by PySem.W.S.findZ_eq
name_quick tw16406328271908756883 for PySem.W.S.findZ by PySem.W.S.findZ_eq
name_quick tw16413264400604254196 for PySem.W.S.findZ by PySem.W.S.findZ_eq
name_quick tw16414604833108395602 for PySem.W.S.findZ by PySem.W.S.findZ_eq
name_quick tw16432479971616331241 for PySem.W.S.findZ by PySem.W.S.findZ_eq
name_quick tw16437185098154296904 for PySem.W.S.findZ by PySem.W.S.findZ_eq
name_quick tw16439824349840649037 for PySem.W.S.findZ by PySem.W.S.findZ_eq
name_quick tw16487025518467493737 for PySem.W.S.findZ by PySem.W.S.findZ_eq
name_quick tw16494616584097029746 for PySem.W.S.findZ by PySem.W.S.findZ_eq
name_quick tw16531745337717519161 for PySem.W.S.findZ by PySem.W.S.findZ_eq
name_quick tw16548257151911338427 for PySem.W.S.findZ by PySem.W.S.findZ_eq
name_quick tw16593013826814733010 for PySem.W.S.findZ by PySem.W.S.findZ_eq
name_quick tw16643706677886111943 for PySem.W.S.findZ by PySem.W.S.findZ_eq
name_quick tw16655555454665732581 for PySem.W.S.findZ by PySem.W.S.findZ_eq
name_quick tw16697116713213952808 for PySem.W.S.findZ by PySem.W.S.findZ_eq
name_quick tw16741492637210864865 for PySem.W.S.findZ by PySem.W.S.findZ_eq
name_quick tw16752143609539240740 for PySem.W.S.findZ by PySem.W.S.findZ_eq
name_quick tw16817318245366136608 for PySem.W.S.findZ by PySem.W.S.findZ_eq
name_quick tw16846860572762119324 for PySem.W.S.findZ by PySem.W.S.findZ_eq
name_quick tw16869277618539721502 for PySem.W.S.findZ by PySem.W.S.findZ_eq
name_quick tw16874561944515371726 for PySem.W.S.findZ by PySem.W.S.findZ_eq
name_quick tw16916688483869632129 for PySem.W.S.findZ by PySem.W.S.findZ_eq
name_quick tw16935789422729920345 for PySem.W.S.findZ by PySem.W.S.findZ_eq
name_quick tw16942194440817826258 for PySem.W.S.findZ by PySem.W.S.findZ_eq
name_quick tw16947794391021106201 for PySem.W.S.findZ by PySem.W.S.findZ_eq
name_quick tw16966814322356759819 for PySem.W.S.findZ by PySem.W.S.findZ_eq
name_quick tw16979880578912567463 for PySem.W.S.findZ by PySem.W.S.findZ_eq
name_quick tw17000155066101142889 for PySem.W.S.findZ by PySem.W.S.findZ_eq
name_quick tw17001327861769816259 for PySem.W.S.findZ by PySem.W.S.findZ_eq
name_quick tw17018628822417861297 for PySem.W.S.findZ by PySem.W.S.findZ_eq
name_quick tw17024950926791866790 for PySem.W.S.findZ by PySem.W.S.findZ_eq
name_quick tw1702518465993881591 for PySem.W.S.findZ by PySem.W.S.findZ_eq
name_quick tw17057272898397164401 for PySem.W.S.findZ by PySem.W.S.findZ_eq
name_quick tw1706496860858754268 for PySem.W.S.findZ by PySem.W.S.findZ_eq
name_quick tw17069979004554194336 for PySem.W.S.findZ by PySem.W.S.findZ_eq
name_quick tw1708024556718086227 for PySem.W.S.findZ by PySem.W.S.findZ_eq
name_quick tw17100903815162463580 for PySem.W.S.findZ by PySem.W.S.findZ_eq
name_quick tw17101871299007795629 for PySem.W.S.findZ by PySem.W.S.findZ_eq
name_quick tw17111948838632640456 for PySem.W.S.findZ by PySem.W.S.findZ_eq
name_quick tw1715305286062143992 for PySem.W.S.findZ by PySem.W.S.findZ_eq
name_quick tw17164873540382356111 for PySem.W.S.findZ by PySem.W.S.findZ_eq
name_quick tw17244072584429378644 for PySem.W.S.findZ by PySem.W.S.findZ_eq
name_quick tw17274371674624000324 for PySem.W.S.findZ by PySem.W.S.findZ_eq
name_quick tw17280976486791472633 for PySem.W.S.findZ by PySem.W.S.findZ_eq
name_quick tw17300597898927385350 for PySem.W.S.findZ by PySem.W.S.findZ_eq
name_quick tw17341736924252097559 for PySem.W.S.findZ by PySem.W.S.findZ_eq
name_quick tw17352973434858128600 for PySem.W.S.findZ by PySem.W.S.findZ_eq
name_quick tw1735497430108182060 for PySem.W.S.findZ by PySem.W.S.findZ_eq
name_quick tw17394056326795013819 for PySem.W.S.findZ by PySem.W.S.findZ_eq
name_quick tw17434858337260393937 for PySem.W.S.findZ by PySem.W.S.findZ_eq
name_quick tw17476080006546285661 for PySem.W.S.findZ by PySem.W.S.findZ_eq
name_quick tw17497748084772794779 for PySem.W.S.findZ by PySem.W.S.findZ_eq
name_quick tw1749818173716722547 for PySem.W.S.findZ by PySem.W.S.findZ_eq
name_quick tw17520869792638436183 for PySem.W.S.findZ by PySem.W.S.findZ_eq
name_quick tw17532718790514356516 for PySem.W.S.findZ by PySem.W.S.findZ_eq
name_quick tw17537794083376710389 for PySem.W.S.findZ by PySem.W.S.findZ_eq
name_quick tw17552769576498331613 for PySem.W.S.findZ by PySem.W.S.findZ_eq
name_quick tw17621906489947442344 for PySem.W.S.findZ by PySem.W.S.findZ_eq
name_quick tw1763209079605825380 for PySem.W.S.findZ by PySem.W.S.findZ_eq
name_quick tw17672482021469178181 for PySem.W.S.findZ by PySem.W.S.findZ_eq
name_quick tw1772237422875290029 for PySem.W.S.findZ by PySem.W.S.findZ_eq
name_quick tw17730428716208468724 for PySem.W.S.findZ by PySem.W.S.findZ_eq
name_quick tw17730448691065144110 for PySem.W.S.findZ by PySem.W.S.findZ_eq
name_quick tw17765544955259793912 for PySem.W.S.findZ by PySem.W.S.findZ_eq
name_quick tw17774800907425398282 for PySem.W.S.findZ by PySem.W.S.findZ_eq
name_quick tw17804436615005485693 for PySem.W.S.findZ by PySem.W.S.findZ_eq
name_quick tw17828083071136270317 for PySem.W.S.findZ by PySem.W.S.findZ_eq
name_quick tw17846936440860909165 for PySem.W.S.findZ by PySem.W.S.findZ_eq
name_quick tw17863021456227041891 for PySem.W.S.findZ by PySem.W.S.findZ_eq
name_quick tw1787120219092083046 for PySem.W.S.findZ by PySem.W.S.findZ_eq
name_quick tw17888162413812561239 for PySem.W.S.findZ by PySem.W.S.findZ_eq
name_quick tw17913803186225011329 for PySem.W.S.findZ by PySem.W.S.findZ_eq
name_quick tw17964007177503468958 for PySem.W.S.findZ by PySem.W.S.findZ_eq
name_quick tw17975652961387846372 for PySem.W.S.findZ by PySem.W.S.findZ_eq
name_quick tw17988542015724977305 for PySem.W.S.findZ by PySem.W.S.findZ_eq
name_quick tw18056578402003937789 for PySem.W.S.findZ by PySem.W.S.findZ_eq
name_quick tw18220123701641295943 for PySem.W.S.findZ by PySem.W.S.findZ_eq
name_quick tw18260038339965228139 for PySem.W.S.findZ by PySem.W.S.findZ_eq
name_quick tw1829445100760108279 for PySem.W.S.findZ by PySem.W.S.findZ_eq
name_quick tw18340240734955500558 for PySem.W.S.findZ by PySem.W.S.findZ_eq
name_quick tw18345786424863182364 for PySem.W.S.findZ by PySem.W.S.findZ_eq
name_quick tw18350638575300117064 for PySem.W.S.findZ by PySem.W.S.findZ_eq
name_quick tw183835017167291270 for PySem.W.S.findZ by PySem.W.S.findZ_eq
name_quick tw18416463498863911781 for PySem.W.S.findZ by PySem.W.S.findZ_eq
name_quick tw1886563365779066154 for PySem.W.S.findZ by PySem.W.S.findZ_eq
name_quick tw189603312586018693 for PySem.W.S.findZ by PySem.W.S.findZ_eq
name_quick tw1962928258387122110 for PySem.W.S.findZ by PySem.W.S.findZ_eq
name_quick tw2039238271031011813 for PySem.W.S.findZ by PySem.W.S.findZ_eq
name_quick tw20863073609108064 for PySem.W.S.findZ by PySem.W.S.findZ_eq
name_quick tw2193789692954389824 for PySem.W.S.findZ by PySem.W.S.findZ_eq
name_quick tw219737044198020058 for PySem.W.S.findZ by PySem.W.S.findZ_eq
name_quick tw2211463529683891377 for PySem.W.S.findZ by PySem.W.S.findZ_eq
name_quick tw2261556342732366115 for PySem.W.S.findZ by PySem.W.S.findZ_eq
name_quick tw2283851925072248500 for PySem.W.S.findZ by PySem.W.S.findZ_eq
name_quick tw2315820567201803617 for PySem.W.S.findZ by PySem.W.S.findZ_eq
name_quick tw2334299552400917057 for PySem.W.S.findZ by PySem.W.S.findZ_eq
name_quick tw2354101950205528012 for PySem.W.S.findZ by PySem.W.S.findZ_eq
name_quick tw2378363196638174374 for PySem.W.S.findZ by PySem.W.S.findZ_eq
name_quick tw2401699919119007470 for PySem.W.S.findZ by PySem.W.S.findZ_eq
name_quick tw2408619945344806742 for PySem.W.S.findZ by PySem.W.S.findZ_eq
name_quick tw2422670821966735624 for PySem.W.S.findZ by PySem.W.S.findZ_eq
name_quick tw2447775223705975068 for PySem.W.S.findZ by PySem.W.S.findZ_eq
name_quick tw2460228577881660442 for PySem.W.S.findZ by PySem.W.S.findZ_eq
name_quick tw2478078296215019888 for PySem.W.S.findZ by PySem.W.S.findZ_eq
name_quick tw2611137233208623240 for PySem.W.S.findZ by PySem.W.S.findZ_eq
name_quick tw2627984346626558326 for PySem.W.S.findZ by PySem.W.S.findZ_eq
name_quick tw2660918139993853925 for PySem.W.S.findZ by PySem.W.S.findZ_eq
name_quick tw2664551874359636763 for PySem.W.S.findZ by PySem.W.S.findZ_eq
name_quick tw2670528217467546775 for PySem.W.S.findZ by PySem.W.S.findZ_eq
name_quick tw2711585505577850959 for PySem.W.S.findZ by PySem.W.S.findZ_eq
name_quick tw2719445374943340272 for PySem.W.S.findZ by PySem.W.S.findZ_eq
name_quick tw2736616831223182526 for PySem.W.S.findZ by PySem.W.S.findZ_eq
name_quick tw282004115355043989 for PySem.W.S.findZ by PySem.W.S.findZ_eq
name_quick tw2862820112641550484 for PySem.W.S.findZ by PySem.W.S.findZ_eq
name_quick tw2902314222560053993 for PySem.W.S.findZ by PySem.W.S.findZ_eq
name_quick tw2905824091091238844 for PySem.W.S.findZ by PySem.W.S.findZ_eq
name_quick tw2922074901204462755 for PySem.W.S.findZ by PySem.W.S.findZ_eq
name_quick tw2958062672499776758 for PySem.W.S.findZ by PySem.W.S.findZ_eq
name_quick tw2968979199505139716 for PySem.W.S.findZ by PySem.W.S.findZ_eq
name_quick tw3039592710220408265 for PySem.W.S.findZ by PySem.W.S.findZ_eq
name_quick tw3093977132361051618 for PySem.W.S.findZ by PySem.W.S.findZ_eq
name_quick tw3094477031063562474 for PySem.W.S.findZ by PySem.W.S.findZ_eq
name_quick tw3105397867545767578 for PySem.W.S.findZ by PySem.W.S.findZ_eq
name_quick tw3118938333895590913 for PySem.W.S.findZ by PySem.W.S.findZ_eq
name_quick tw3131671291697673992 for PySem.W.S.findZ by PySem.W.S.findZ_eq
name_quick tw313226197891681235 for PySem.W.S.findZ by PySem.W.S.findZ_eq
name_quick tw3152983702415266003 for PySem.W.S.findZ by PySem.W.S.findZ_eq
name_quick tw3209381107111851631 for PySem.W.S.findZ by PySem.W.S.findZ_eq
name_quick tw325292655437039998 for PySem.W.S.findZ by PySem.W.S.findZ_eq
name_quick tw3264259588550801142 for PySem.W.S.findZ by PySem.W.S.findZ_eq
name_quick tw3282434896037501709 for PySem.W.S.findZ by PySem.W.S.findZ_eq
name_quick tw3315324234476444515 for PySem.W.S.findZ by PySem.W.S.findZ_eq
name_quick tw3362959441861295915 for PySem.W.S.findZ by PySem.W.S.findZ_eq
name_quick tw3386650904741475044 for PySem.W.S.findZ by PySem.W.S.findZ_eq
name_quick tw3424931102881643321 for PySem.W.S.findZ by PySem.W.S.findZ_eq
name_quick tw3436264866546951355 for PySem.W.S.findZ by PySem.W.S.findZ_eq
name_quick tw3442601649717412197 for PySem.W.S.findZ by PySem.W.S.findZ_eq
name_quick tw3470799630455053000 for PySem.W.S.findZ by PySem.W.S.findZ_eq
name_quick tw347637069881736656 for PySem.W.S.findZ by PySem.W.S.findZ_eq
name_quick tw3518320864476830065 for PySem.W.S.findZ by PySem.W.S.findZ_eq
name_quick tw3560238982266916124 for PySem.W.S.findZ by PySem.W.S.findZ_eq
name_quick tw3577408171920636059 for PySem.W.S.findZ by PySem.W.S.findZ_eq
name_quick tw3619232141914619222 for PySem.W.S.findZ by PySem.W.S.findZ_eq
name_quick tw3636048126100218174 for PySem.W.S.findZ by PySem.W.S.findZ_eq
name_quick tw3764465048917985505 for PySem.W.S.findZ by PySem.W.S.findZ_eq
name_quick tw3778451253796500701 for PySem.W.S.findZ by PySem.W.S.findZ_eq
name_quick tw3820604794100220378 for PySem.W.S.findZ by PySem.W.S.findZ_eq
name_quick tw383695940523520267 for PySem.W.S.findZ by PySem.W.S.findZ_eq
name_quick tw3856783459128436802 for PySem.W.S.findZ by PySem.W.S.findZ_eq
name_quick tw387338674003428930 for PySem.W.S.findZ by PySem.W.S.findZ_eq
name_quick tw3880421473898291048 for PySem.W.S.findZ by PySem.W.S.findZ_eq
name_quick tw3891137856419664920 for PySem.W.S.findZ by PySem.W.S.findZ_eq
name_quick tw392140993173905013 for PySem.W.S.findZ by PySem.W.S.findZ_eq
name_quick tw3972328310683599613 for PySem.W.S.findZ by PySem.W.S.findZ_eq
name_quick tw3976722010076183465 for PySem.W.S.findZ by PySem.W.S.findZ_eq
name_quick tw4011157648589011858 for PySem.W.S.findZ by PySem.W.S.findZ_eq
name_quick tw4039474712603431140 for PySem.W.S.findZ by PySem.W.S.findZ_eq
name_quick tw4071324889030633612 for PySem.W.S.findZ by PySem.W.S.findZ_eq
name_quick tw4090926877573551719 for PySem.W.S.findZ by PySem.W.S.findZ_eq
name_quick tw4172830789200971933 for PySem.W.S.findZ by PySem.W.S.findZ_eq
name_quick tw4224760802259116069 for PySem.W.S.findZ by PySem.W.S.findZ_eq
name_quick tw4275521005467322725 for PySem.W.S.findZ by PySem.W.S.findZ_eq
name_quick tw4278798014809849964 for PySem.W.S.findZ by PySem.W.S.findZ_eq
name_quick tw4292500188555128830 for PySem.W.S.findZ by PySem.W.S.findZ_eq
name_quick tw4302124980754421698 for PySem.W.S.findZ by PySem.W.S.findZ_eq
name_quick tw4319705520415482375 for PySem.W.S.findZ by PySem.W.S.findZ_eq
name_quick tw43969757491396457 for PySem.W.S.findZ by PySem.W.S.findZ_eq
name_quick tw4407734736301137906 for PySem.W.S.findZ by PySem.W.S.findZ_eq
name_quick tw441327347791068078 for PySem.W.S.findZ by PySem.W.S.findZ_eq
name_quick tw4434333111790514575 for PySem.W.S.findZ by PySem.W.S.findZ_eq
name_quick tw4527066259768149269 for PySem.W.S.findZ by PySem.W.S.findZ_eq
name_quick tw4549333791460862111 for PySem.W.S.findZ by PySem.W.S.findZ_eq
name_quick tw4552823106982906706 for PySem.W.S.findZ by PySem.W.S.findZ_eq
name_quick tw460243522976405022 for PySem.W.S.findZ by PySem.W.S.findZ_eq
name_quick tw4658958612460137192 for PySem.W.S.findZ by PySem.W.S.findZ_eq
name_quick tw4679858250743294509 for PySem.W.S.findZ by PySem.W.S.findZ_eq
name_quick tw4681523508651956083 for PySem.W.S.findZ by PySem.W.S.findZ_eq
name_quick tw470574548607681690 for PySem.W.S.findZ by PySem.W.S.findZ_eq
name_quick tw4748654258956052638 for PySem.W.S.findZ by PySem.W.S.findZ_eq
name_quick tw4775785305629353868 for PySem.W.S.findZ by PySem.W.S.findZ_eq
name_quick tw4797165386629745026 for PySem.W.S.findZ by PySem.W.S.findZ_eq
name_quick tw4933834842325187142 for PySem.W.S.findZ by PySem.W.S.findZ_eq
name_quick tw4936483359421988267 for PySem.W.S.findZ by PySem.W.S.findZ_eq
name_quick tw4978915544186085027 for PySem.W.S.findZ by PySem.W.S.findZ_eq
name_quick tw4980102563643897964 for PySem.W.S.findZ by PySem.W.S.findZ_eq
name_quick tw5032809538720368765 for PySem.W.S.findZ by PySem.W.S.findZ_eq
name_quick tw505943868828395459 for PySem.W.S.findZ by PySem.W.S.findZ_eq
name_quick tw5068434257544371817 for PySem.W.S.findZ by PySem.W.S.findZ_eq
name_quick tw5076957145309523181 for PySem.W.S.findZ by PySem.W.S.findZ_eq
name_quick tw5111356299099525756 for PySem.W.S.findZ by PySem.W.S.findZ_eq
name_quick tw5135500740108067664 for PySem.W.S.findZ by PySem.W.S.findZ_eq
name_quick tw5200128776193632040 for PySem.W.S.findZ by PySem.W.S.findZ_eq
name_quick tw5248340912204065574 for PySem.W.S.findZ by PySem.W.S.findZ_eq
name_quick tw5268983451555188008 for PySem.W.S.findZ by PySem.W.S.findZ_eq
name_quick tw5345256250457102556 for PySem.W.S.findZ by PySem.W.S.findZ_eq
name_quick tw5349121933718820234 for PySem.W.S.findZ by PySem.W.S.findZ_eq
name_quick tw5357591511691535388 for PySem.W.S.findZ by PySem.W.S.findZ_eq
name_quick tw5396446701170858492 for PySem.W.S.findZ by PySem.W.S.findZ_eq
name_quick tw5556206192530704276 for PySem.W.S.findZ by PySem.W.S.findZ_eq
name_quick tw5565278806992967083 for PySem.W.S.findZ by PySem.W.S.findZ_eq
name_quick tw558745408833754511 for PySem.W.S.findZ by PySem.W.S.findZ_eq
name_quick tw5697894365363955025 for PySem.W.S.findZ by PySem.W.S.findZ_eq
name_quick tw5701610774189311196 for PySem.W.S.findZ by PySem.W.S.findZ_eq
name_quick tw5706481520468235054 for PySem.W.S.findZ by PySem.W.S.findZ_eq
name_quick tw5732905514179830355 for PySem.W.S.findZ by PySem.W.S.findZ_eq
name_quick tw5770868932273138760 for PySem.W.S.findZ by PySem.W.S.findZ_eq
name_quick tw5823794197072137003 for PySem.W.S.findZ by PySem.W.S.findZ_eq
name_quick tw5853683300791708862 for PySem.W.S.findZ by PySem.W.S.findZ_eq
name_quick tw5902227825499142635 for PySem.W.S.findZ by PySem.W.S.findZ_eq
name_quick tw5925582254088234700 for PySem.W.S.findZ by PySem.W.S.findZ_eq
name_quick tw5978237884098788730 for PySem.W.S.findZ by PySem.W.S.findZ_eq
name_quick tw6004533443673955352 for PySem.W.S.findZ by PySem.W.S.findZ_eq
name_quick tw6019396324639902685 for PySem.W.S.findZ by PySem.W.S.findZ_eq
name_quick tw6059929106960060952 for PySem.W.S.findZ by PySem.W.S.findZ_eq
name_quick tw607167704815816724 for PySem.W.S.findZ by PySem.W.S.findZ_eq
name_quick tw6090905460779295987 for PySem.W.S.findZ by PySem.W.S.findZ_eq
name_quick tw6122645084068987007 for PySem.W.S.findZ by PySem.W.S.findZ_eq
name_quick tw6125931036764729998 for PySem.W.S.findZ by PySem.W.S.findZ_eq
name_quick tw6135381517318000843 for PySem.W.S.findZ by PySem.W.S.findZ_eq
name_quick tw6144853644547557980 for PySem.W.S.findZ by PySem.W.S.findZ_eq
name_quick tw6148621092414575339 for PySem.W.S.findZ by PySem.W.S.findZ_eq
name_quick tw6213141578215901147 for PySem.W.S.findZ by PySem.W.S.findZ_eq
name_quick tw6245536207120538393 for PySem.W.S.findZ by PySem.W.S.findZ_eq
name_quick tw6363645014702824404 for PySem.W.S.findZ by PySem.W.S.findZ_eq
name_quick tw6380047634161181297 for PySem.W.S.findZ by PySem.W.S.findZ_eq
name_quick tw6426273055680023932 for PySem.W.S.findZ by PySem.W.S.findZ_eq
name_quick tw6434138532213402376 for PySem.W.S.findZ by PySem.W.S.findZ_eq
name_quick tw6434265647005701932 for PySem.W.S.findZ by PySem.W.S.findZ_eq
name_quick tw6448080314894763839 for PySem.W.S.findZ by PySem.W.S.findZ_eq
name_quick tw6550987210724342151 for PySem.W.S.findZ by PySem.W.S.findZ_eq
name_quick tw6587116730350146372 for PySem.W.S.findZ by PySem.W.S.findZ_eq
name_quick tw6589095468515690095 for PySem.W.S.findZ by PySem.W.S.findZ_eq
name_quick tw662354867322794072 for PySem.W.S.findZ by PySem.W.S.findZ_eq
name_quick tw6654550962395885724 for PySem.W.S.findZ by PySem.W.S.findZ_eq
name_quick tw6662432510661729299 for PySem.W.S.findZ by PySem.W.S.findZ_eq
name_quick tw667198328695590252 for PySem.W.S.findZ by PySem.W.S.findZ_eq
name_quick tw6679490504615227074 for PySem.W.S.findZ by PySem.W.S.findZ_eq
name_quick tw6711915476519705758 for PySem.W.S.findZ by PySem.W.S.findZ_eq
name_quick tw6714822604882049554 for PySem.W.S.findZ by PySem.W.S.findZ_eq
name_quick tw6722154040420286063 for PySem.W.S.findZ by PySem.W.S.findZ_eq
name_quick tw6789855027759293466 for PySem.W.S.findZ by PySem.W.S.findZ_eq
name_quick tw6792406925840432001 for PySem.W.S.findZ by PySem.W.S.findZ_eq
name_quick tw6817277305950994716 for PySem.W.S.findZ by PySem.W.S.findZ_eq
name_quick tw682011567655089306 for PySem.W.S.findZ by PySem.W.S.findZ_eq
name_quick tw6909570525239066004 for PySem.W.S.findZ by PySem.W.S.findZ_eq
name_quick tw6930491892270206683 for PySem.W.S.findZ by PySem.W.S.findZ_eq
name_quick tw6967401301877209104 for PySem.W.S.findZ by PySem.W.S.findZ_eq
name_quick tw7009043117176579089 for PySem.W.S.findZ by PySem.W.S.findZ_eq
name_quick tw7035115661146626270 for PySem.W.S.findZ by PySem.W.S.findZ_eq
name_quick tw704327219915372674 for PySem.W.S.findZ by PySem.W.S.findZ_eq
name_quick tw7094674258960923220 for PySem.W.S.findZ by PySem.W.S.findZ_eq
name_quick tw7098571738820278039 for PySem.W.S.findZ by PySem.W.S.findZ_eq
name_quick tw7126170826503498248 for PySem.W.S.findZ by PySem.W.S.findZ_eq
name_quick tw721709456127091705 for PySem.W.S.findZ by PySem.W.S.findZ_eq
name_quick tw7232422423428716515 for PySem.W.S.findZ by PySem.W.S.findZ_eq
name_quick tw724751600484774222 for PySem.W.S.findZ by PySem.W.S.findZ_eq
name_quick tw7250012664060256230 for PySem.W.S.findZ by PySem.W.S.findZ_eq
name_quick tw7269565832213808900 for PySem.W.S.findZ by PySem.W.S.findZ_eq
name_quick tw7275051467321613617 for PySem.W.S.findZ by PySem.W.S.findZ_eq
name_quick tw7276740287692124622 for PySem.W.S.findZ by PySem.W.S.findZ_eq
name_quick tw7286323032743288035 for PySem.W.S.findZ by PySem.W.S.findZ_eq
name_quick tw7299303143086499733 for PySem.W.S.findZ by PySem.W.S.findZ_eq
name_quick tw7323676302269181137 for PySem.W.S.findZ by PySem.W.S.findZ_eq
name_quick tw7365555872484859036 for PySem.W.S.findZ by PySem.W.S.findZ_eq
name_quick tw7392212959928792091 for PySem.W.S.findZ by PySem.W.S.findZ_eq
name_quick tw7401281599722004195 for PySem.W.S.findZ by PySem.W.S.findZ_eq
name_quick tw7469732015759309437 for PySem.W.S.findZ by PySem.W.S.findZ_eq
name_quick tw7483462131439158144 for PySem.W.S.findZ by PySem.W.S.findZ_eq
name_quick tw7504490480230193789 for PySem.W.S.findZ by PySem.W.S.findZ_eq
name_quick tw7505897509792200422 for PySem.W.S.findZ by PySem.W.S.findZ_eq
name_quick tw757081541053455785 for PySem.W.S.findZ by PySem.W.S.findZ_eq
name_quick tw7581352650102555174 for PySem.W.S.findZ by PySem.W.S.findZ_eq
name_quick tw7585139358526817783 for PySem.W.S.findZ by PySem.W.S.findZ_eq
name_quick tw7619357645376055252 for PySem.W.S.findZ by PySem.W.S.findZ_eq
name_quick tw7650934615059315214 for PySem.W.S.findZ by PySem.W.S.findZ_eq
name_quick tw7745614565497352828 for PySem.W.S.findZ by PySem.W.S.findZ_eq
name_quick tw7783732958741208154 for PySem.W.S.findZ by PySem.W.S.findZ_eq
name_quick tw7788680626742099145 for PySem.W.S.findZ by PySem.W.S.findZ_eq
name_quick tw7802139600951554647 for PySem.W.S.findZ by PySem.W.S.findZ_eq
name_quick tw7892128664451923741 for PySem.W.S.findZ by PySem.W.S.findZ_eq
name_quick tw8032284361305108907 for PySem.W.S.findZ by PySem.W.S.findZ_eq
name_quick tw8047484207015712433 for PySem.W.S.findZ by PySem.W.S.findZ_eq
name_quick tw8075568018651887793 for PySem.W.S.findZ by PySem.W.S.findZ_eq
name_quick tw8098380416015320538 for PySem.W.S.findZ by PySem.W.S.findZ_eq
name_quick tw8119918657739134586 for PySem.W.S.findZ by PySem.W.S.findZ_eq
name_quick tw8206430501311747189 for PySem.W.S.findZ by PySem.W.S.findZ_eq
name_quick tw8224813933742928703 for PySem.W.S.findZ by PySem.W.S.findZ_eq
name_quick tw8253183596043897158 for PySem.W.S.findZ by PySem.W.S.findZ_eq
name_quick tw8376441433122354887 for PySem.W.S.findZ by PySem.W.S.findZ_eq
name_quick tw8400853705098224536 for PySem.W.S.findZ by PySem.W.S.findZ_eq
name_quick tw8424611434330503625 for PySem.W.S.findZ by PySem.W.S.findZ_eq
name_quick tw8450942572126056277 for PySem.W.S.findZ by PySem.W.S.findZ_eq
name_quick tw8459811325457737761 for PySem.W.S.findZ by PySem.W.S.findZ_eq
name_quick tw8537084889766193716 for PySem.W.S.findZ by PySem.W.S.findZ_eq
name_quick tw8579058602437062094 for PySem.W.S.findZ by PySem.W.S.findZ_eq
name_quick tw8595292554425487202 for PySem.W.S.findZ by PySem.W.S.findZ_eq
name_quick tw8603108125212654177 for PySem.W.S.findZ by PySem.W.S.findZ_eq
name_quick tw8620020772036689432 for PySem.W.S.findZ by PySem.W.S.findZ_eq
name_quick tw8642067239939848140 for PySem.W.S.findZ by PySem.W.S.findZ_eq
name_quick tw8693227569615203950 for PySem.W.S.findZ by PySem.W.S.findZ_eq
name_quick tw8703263022893421829 for PySem.W.S.findZ by PySem.W.S.findZ_eq
name_quick tw8708707556590381134 for PySem.W.S.findZ by PySem.W.S.findZ_eq
name_quick tw8719427161674164953 for PySem.W.S.findZ by PySem.W.S.findZ_eq
name_quick tw8727135674562949291 for PySem.W.S.findZ by PySem.W.S.findZ_eq
name_quick tw8860024209350480642 for PySem.W.S.findZ by PySem.W.S.findZ_eq
name_quick tw900395245841561262 for PySem.W.S.findZ by PySem.W.S.findZ_eq
name_quick tw912392155897948271 for PySem.W.S.findZ by PySem.W.S.findZ_eq
name_quick tw9136488742655976645 for PySem.W.S.findZ by PySem.W.S.findZ_eq
name_quick tw9151444980202551346 for PySem.W.S.findZ by PySem.W.S.findZ_eq
name_quick tw9236875199018929784 for PySem.W.S.findZ by PySem.W.S.findZ_eq
name_quick tw9285146279643344392 for PySem.W.S.findZ by PySem.W.S.findZ_eq
name_quick tw9305782018832362445 for PySem.W.S.findZ by PySem.W.S.findZ_eq
name_quick tw9315938663221665524 for PySem.W.S.findZ by PySem.W.S.findZ_eq
name_quick tw932993149863042379 for PySem.W.S.findZ by PySem.W.S.findZ_eq
name_quick tw9376109419431680627 for PySem.W.S.findZ by PySem.W.S.findZ_eq
name_quick tw9396933662098498411 for PySem.W.S.findZ by PySem.W.S.findZ_eq
name_quick tw9407582987413476825 for PySem.W.S.findZ by PySem.W.S.findZ_eq
name_quick tw9458956999447867950 for PySem.W.S.findZ by PySem.W.S.findZ_eq
name_quick tw9467589175468403638 for PySem.W.S.findZ by PySem.W.S.findZ_eq
name_quick tw9501820088010722379 for PySem.W.S.findZ by PySem.W.S.findZ_eq
name_quick tw951843321253372498 for PySem.W.S.findZ by PySem.W.S.findZ_eq
name_quick tw9529234661008812162 for PySem.W.S.findZ by PySem.W.S.findZ_eq
name_quick tw9537544019596298400 for PySem.W.S.findZ by PySem.W.S.findZ_eq
name_quick tw9564595351457756722 for PySem.W.S.findZ by PySem.W.S.findZ_eq
name_quick tw9594665118957945026 for PySem.W.S.findZ by PySem.W.S.findZ_eq
name_quick tw9626621113073979434 for PySem.W.S.findZ by PySem.W.S.findZ_eq
name_quick tw9673203406766833760 for PySem.W.S.findZ by PySem.W.S.findZ_eq
name_quick tw9674257727999782656 for PySem.W.S.findZ by PySem.W.S.findZ_eq
name_quick tw9676229304581654039 for PySem.W.S.findZ by PySem.W.S.findZ_eq
name_quick tw973662469405803806 for PySem.W.S.findZ by PySem.W.S.findZ_eq
name_quick tw9759809726879904816 for PySem.W.S.findZ by PySem.W.S.findZ_eq
name_quick tw9763268239775435451 for PySem.W.S.findZ by PySem.W.S.findZ_eq
name_quick tw9787396351842916947 for PySem.W.S.findZ by PySem.W.S.findZ_eq
name_quick tw9787463984185863102 for PySem.W.S.findZ by PySem.W.S.findZ_eq
name_quick tw9800571698397750058 for PySem.W.S.findZ by PySem.W.S.findZ_eq
name_quick tw9862997608875712007 for PySem.W.S.findZ by PySem.W.S.findZ_eq
name_quick tw9868827292493398776 for PySem.W.S.findZ by PySem.W.S.findZ_eq
name_quick tw9908251947323293946 for PySem.W.S.findZ by PySem.W.S.findZ_eq
name_quick tw9931943479562821362 for PySem.W.S.findZ by PySem.W.S.findZ_eq
name_quick tw9948023125614773506 for PySem.W.S.findZ by PySem.W.S.findZ_eq
name_quick tw9951705424602377420 for PySem.W.S.findZ by PySem.W.S.findZ_eq
name_quick tw9979284746773624096 for PySem.W.S.findZ by PySem.W.S.findZ_eq
namespace Mine
local macro_rules | `(tactic| o_head ($f:ident $k $a $e $l)) => `(tactic| o_head ($f:ident $k $a $e <| [225, 497]))
open_top hd for PySem.Challenge.rw_rk0008_01
example : (fun (_ : OpenLaw) (_ : Params → Frag) => True) PySem.Challenge.rw_rk0008_01 hd.heap_39 := by
  k_fill
  w_top off
  trivial
end Mine
end
section
namespace Mine
/-- the goal put behind a name while a fact is taken apart -/
theorem hideG {G : Prop} (k : ∀ H : Prop, (G → H) → H) : G := k G id
@[elab_as_elim] theorem hideV {α : Type} {P : α → Prop} (v : α) (k : ∀ H : α → Prop, (∀ u, P u → H u) → H v) : P v := k P fun _ h => h
@[elab_as_elim] theorem hideW {α β : Type} {P : α → β → Prop} (v : α) (u : β) (k : ∀ H : α → β → Prop, (∀ a b, P a b → H a b) → H v u) : P v u := k P fun _ _ h => h
end Mine
end
section
open PySem PySem.W PyProof.Rows PySem.Calls
set_option maxRecDepth 100000
set_option maxHeartbeats 4000000
namespace Mine

/-- a list iterator that stands at place i of the list at l -/
noncomputable def LiveIt (o : Obj) (l : Addr) (i : Nat) : Prop := o.cls = .type "list_iterator" ∧ o.data = .fields #[.ref l, .int i 0]
/-- a list iterator that has come to its end -/
noncomputable def DeadIt (o : Obj) : Prop := o.cls = .type "list_iterator" ∧ ∃ v, o.data = .fields #[.none, v]

section
variable {prog : Program} {w : World} {A : Around} {E : Value → Shared → Prop} {s : Shared} {h₀ : Heap} {L D : Addr} {m : Str → Option Value} {news news' : List (Addr × Obj)}

theorem ne_of_lt9 {a d b : Nat} (h : a < d) (h2 : d ≤ b) : a ≠ b := by omega
theorem six {k : Nat} (h : k < 6) : k = 0 ∨ k = 1 ∨ k = 2 ∨ k = 3 ∨ k = 4 ∨ k = 5 := by omega
theorem fit_of {n : Nat} (h : n ≤ 1000000) : n ≤ sizeLine := by rw [sizeLine_eq]; omega

theorem truthyL {its : Array Value} {n : Nat} {Q : Bool → Shared → Prop} (N : News h₀ L s.heap news) (hm : (D, PySem.W.listOf its n) ∈ news) (hfit : its.size ≤ 1000000)
    (h : Q (!its.isEmpty) { s with toks := s.toks + 1 + 1 }) : wpAny (model prog w) A (truthy (.ref D)) Q E s :=
  wpAny_truthy_list ⟨_, (N _ hm).1, rfl, n, rfl⟩ (by omega) h

theorem methodL {name : Str} {id : String} {its : Array Value} {n : Nat} {pl : Sem Bool} {Q : Value × List Value → Shared → Prop} (N : News h₀ L s.heap news) (hm : (D, PySem.W.listOf its n) ∈ news) (slot : Slot "list" name id) (hty : typeOf (.builtin id) = pure (.type "method_descriptor"))
    (h : Q (.builtin id, [.ref D]) s) : wpAny (model prog w) A (getMethod (.ref D) name pl) Q E s := kl_method N hm slot hty h

theorem itemL {value slice : PySem.Expr} {its : Array Value} {n : Nat} {k : Int} {u : Tok} {v : Value} {Q : Value → Shared → Prop} (N : News h₀ L s.heap news) (hm : (D, PySem.W.listOf its n) ∈ news)
    (h0 : 0 ≤ k) (hhi : k < 2 ^ 63) (hx : its[k.toNat]? = some v) (h : Q v s)
    (hs : subscripted slice false (.ref D) (.int k u) = operate [.ref D, .int k u] (getItem (.ref D) (.int k u)) := by with_unfolding_all rfl) :
    wpAny (model prog w) A (subscriptTail value slice (.ref D) (.int k u)) Q E s :=
  have hL : s.heap.IsList D its := ⟨_, (N _ hm).1, rfl, n, rfl⟩
  tail_any hL.typeIs slot_list_getitem.lookup (wpAny_getItem_list hL h0 hhi hx h) hs

theorem pop_last {p : List Value} {y : Value} {n : Nat} {i : Int} {u : Tok} {Q : Value → Shared → Prop} (F : Fr h₀ L s.heap m) (N : News h₀ L s.heap news) (hi : i = -1)
    (U : Upd D (PySem.W.listOf (p ++ [y]).toArray n) (PySem.W.listOf p.toArray (n + 1)) news news') (hz : p.length ≤ 1000000)
    (h : ∀ h', Fr h₀ L h' m → News h₀ L h' news' → Q y { s with heap := h' }) : wpAny (model prog w) A (call (.builtin "list.pop") [.ref D, .int i u]) Q E s := by
  subst hi
  have cut : ∀ p : List Value, kl_cut (p ++ [y]) p.length = some (p, y, []) := by
    intro p
    induction p with
    | nil => rfl
    | cons a r ih => show (match kl_cut (r ++ [y]) r.length with | some (p, y, q) => some (a :: p, y, q) | none => none) = _; rw [ih]
  have hs : (p ++ [y]).toArray.size = p.length + 1 := by simp
  refine kl_popAt (k := p.length) (p := p) (q := []) (y := y) F N (by decide) ?_ (cut p) (by simpa using U) ?_ h
  · rw [hs]
    unfold seqIndex?
    have e : (-1 : Int) + ((p.length + 1 : Nat) : Int) = p.length := by omega
    simp only [show ((-1 : Int) < 0) from by decide, if_true, e]
    simp
    omega
  · have : (p ++ [y]).toArray.toList.length = p.length + 1 := by simp
    rw [this]; exact fit_of (by omega) |> fun x => by rw [sizeLine_eq] at x ⊢; omega

theorem insert0 {its : List Value} {y : Value} {n : Nat} {i : Int} {u : Tok} {Q : Value → Shared → Prop} (F : Fr h₀ L s.heap m) (N : News h₀ L s.heap news) (hi : i = 0)
    (U : Upd D (PySem.W.listOf its.toArray n) (PySem.W.listOf (y :: its).toArray (n + 1)) news news') (hz : its.length ≤ 1000000)
    (h : ∀ h', Fr h₀ L h' m → News h₀ L h' news' → Q .none { s with heap := h' }) : wpAny (model prog w) A (call (.builtin "list.insert") [.ref D, .int i u, y]) Q E s := by
  subst hi
  obtain ⟨pre, post, rfl, rfl, a, b⟩ := U.split
  have z := N (D, PySem.W.listOf its.toArray n) (List.mem_append.mpr (.inr (.head _)))
  refine call_meets PySem.F.slot_list_insert ⟨_, z.1, rfl⟩ PySem.F.entry_list_insert (PySem.F.args_list_insert_3 _ _ _) (PySem.AutoListH.list_insert_list_int_val_1 D _ n 0 u y (by decide) (by rw [List.size_toArray]; exact fit_of hz)) ⟨z.1, h _ (F.change (Heap.SameBut.update ..) z.2.1 z.2.2) (kl_turn _ N a b ?_ ?_)⟩
  · simp
  · simp

theorem clearL {its : List Value} {n : Nat} {Q : Value → Shared → Prop} (F : Fr h₀ L s.heap m) (N : News h₀ L s.heap news) (hne : its ≠ [])
    (U : Upd D (PySem.W.listOf its.toArray n) (PySem.W.listOf ([] : List Value).toArray (n + 1)) news news') (hz : its.length ≤ 1000000)
    (h : ∀ h', Fr h₀ L h' m → News h₀ L h' news' → Q .none { s with heap := h' }) : wpAny (model prog w) A (call (.builtin "list.clear") [.ref D]) Q E s := by
  obtain ⟨pre, post, rfl, rfl, a, b⟩ := U.split
  have z := N (D, PySem.W.listOf its.toArray n) (List.mem_append.mpr (.inr (.head _)))
  refine call_meets PySem.F.slot_list_clear ⟨_, z.1, rfl⟩ PySem.F.entry_list_clear (PySem.F.args_list_clear_1 _) (PySem.AutoSeq1.list_clear_list_0 D _ n (by rw [List.size_toArray]; exact fit_of hz)) ⟨z.1, h _ (F.change (Heap.SameBut.update ..) z.2.1 z.2.2) (kl_turn _ N a b rfl ?_)⟩
  cases its with
  | nil => exact absurd rfl hne
  | cons x r => simp

/-- the end: the iterator forgets its list -/
theorem next_end {it l : Addr} {i : Nat} {items : Array Value} {oi : Obj} {Q : Option Value → Shared → Prop} (hh : A.handled = none) (ho : s.heap.get? it = some oi) (hv : LiveIt oi l i)
    (hl : s.heap.IsList l items) (hx : items[i]? = none)
    (hQ : ∀ h' o', h'.get? it = some o' → DeadIt o' → (∀ b o, b ≠ it → s.heap.get? b = some o → h'.get? b = some o) → Q none { s with heap := h' }) : wpAny (model prog w) A (pyNext (.ref it)) Q E s := by
  obtain ⟨hc, hd⟩ := hv
  have hit : s.heap.IsListIter it l i := ⟨oi, ho, hc, hd⟩
  obtain ⟨ol, hol, _, nl, hdl⟩ := hl
  unfold pyNext
  refine wpAny_bind (wpAny_attempt (wpAny_callSpecial?_slot (name := Str.ofString "__next__") hit.typeIs slot_listiter_next
    (wpAny_call_entry slot_listiter_next hit.typeIs entry_listiter_next ?_ (args_listiter_next _))))
  show wpAny _ _ (field (.ref it) 0 >>= _) _ _ s
  refine wpAny_bind (wpAny_field ho hd (x := .ref l) rfl ?_)
  show wpAny _ _ (if (Value.ref l == Value.none) = true then _ else _) _ _ s
  rw [if_neg (show ¬ ((Value.ref l == Value.none) = true) from Bool.false_ne_true)]
  show wpAny _ _ (field (.ref it) 1 >>= _) _ _ s
  refine wpAny_bind (wpAny_field ho hd (x := .int i 0) rfl ?_)
  show wpAny _ _ (seqItems? (.ref l) >>= _) _ _ s
  refine wpAny_bind (wpAny_seqItems hol hdl ?_)
  simp only [Int.toNat_natCast, hx]
  refine wpAny_bind (wpAny_rule (wpAny_bind (wpAny_setField ho hd (by simp) ?_)))
  show wpAny _ _ (newExc (.type "StopIteration") [] >>= _) _ _ _
  refine wpAny_bind ?_
  simp only [newExc, newTuple]
  refine wpAny_bind (wpAny_newObj_type ?_ (by size_fits))
  refine wpAny_bind (m := firstArgMember _ _) (wpAny_of_eq (a := Value.none) (by first | rfl | (simp only [firstArgMember]; rfl)) ?_)
  refine wpAny_newObj_type ?_ (by size_fits)
  simp only [raiseNew]
  refine wpAny_bind (wpAny_handled ?_)
  rw [show A.in1.handled = none from hh]
  refine wpAny_bind (wpAny_pure (wpAny_throw ?_))
  refine wpAny_bind (wpAny_isInstance (T := "StopIteration") (b := true) ⟨_, Heap.get?_push_size _ rfl, rfl⟩ isSubtype_stop ?_)
  have hs : Heap.SameBut it s.heap (s.heap.update it (Obj.mapFields (·.setIfInBounds 0 .none))) := Heap.SameBut.update ..
  have hg : (s.heap.update it (Obj.mapFields (·.setIfInBounds 0 .none))).get? it = some (oi.mapFields (·.setIfInBounds 0 .none)) := Heap.get?_update_self _ ho (Obj.isFreed_of_fields (Obj.data_mapFields hd _))
  refine wpAny_pure (hQ _ _ (Heap.get?_push_of_some _ (Heap.get?_push_of_some _ hg)) ⟨(Obj.cls_mapFields ..).trans hc, ⟨.int i 0, ?_⟩⟩ ?_)
  · rw [Obj.data_mapFields hd]; simp
  · intro b o hb e
    exact Heap.get?_push_of_some _ (Heap.get?_push_of_some _ ((hs.2 b hb).trans e))

theorem next_dead {it : Addr} {oi : Obj} {Q : Option Value → Shared → Prop} (hh : A.handled = none) (ho : s.heap.get? it = some oi) (hv : DeadIt oi)
    (hQ : ∀ h', (∀ b o, s.heap.get? b = some o → h'.get? b = some o) → Q none { s with heap := h' }) : wpAny (model prog w) A (pyNext (.ref it)) Q E s := by
  obtain ⟨hc, v, hd⟩ := hv
  have hT : s.TypeIs (.ref it) "list_iterator" := ⟨oi, ho, hc⟩
  unfold pyNext
  refine wpAny_bind (wpAny_attempt (wpAny_callSpecial?_slot (name := Str.ofString "__next__") hT slot_listiter_next
    (wpAny_call_entry slot_listiter_next hT entry_listiter_next ?_ (args_listiter_next _))))
  show wpAny _ _ (field (.ref it) 0 >>= _) _ _ s
  refine wpAny_bind (wpAny_field ho hd (x := .none) rfl ?_)
  show wpAny _ _ (if (Value.none == Value.none) = true then _ else _) _ _ s
  rw [if_pos (show ((Value.none == Value.none) = true) from rfl)]
  refine wpAny_bind (wpAny_rule ?_)
  show wpAny _ _ ((newExc (.type "StopIteration") [] >>= fun e => raiseNew e) >>= _) _ _ _
  refine wpAny_bind (wpAny_bind ?_)
  simp only [newExc, newTuple]
  refine wpAny_bind (wpAny_newObj_type ?_ (by size_fits))
  refine wpAny_bind (m := firstArgMember _ _) (wpAny_of_eq (a := Value.none) (by first | rfl | (simp only [firstArgMember]; rfl)) ?_)
  refine wpAny_newObj_type ?_ (by size_fits)
  simp only [raiseNew]
  refine wpAny_bind (wpAny_handled ?_)
  rw [show A.in1.handled = none from hh]
  refine wpAny_bind (wpAny_pure (wpAny_throw ?_))
  refine wpAny_bind (wpAny_isInstance (T := "StopIteration") (b := true) ⟨_, Heap.get?_push_size _ rfl, rfl⟩ isSubtype_stop ?_)
  exact wpAny_pure (hQ _ fun b o e => Heap.get?_push_of_some _ (Heap.get?_push_of_some _ e))

/-- next(it, d): an item -/
theorem next2_item {it l : Addr} {i : Nat} {items : Array Value} {x d : Value} {oi : Obj} {nl : Nat} {g : Obj → List (Addr × Obj)} {Q : Value → Shared → Prop} (F : Fr h₀ L s.heap m) (N : News h₀ L s.heap news) (hv : LiveIt oi l i)
    (U : UpdF it oi news g) (hl : (l, PySem.W.listOf items nl) ∈ news) (hx : items[i]? = some x)
    (h : ∀ h' o', Fr h₀ L h' m → News h₀ L h' (g o') → LiveIt o' l (i + 1) → Q x { s with heap := h' }) : wpAny (model prog w) A (call (.builtin "next") [.ref it, d]) Q E s := by
  obtain ⟨pre, post, hlst, hg, a, b⟩ := U.split
  have hmem : (it, oi) ∈ news := by rw [hlst]; exact List.mem_append_right _ (.head _)
  have hm := N (it, oi) hmem
  have hit : s.heap.IsListIter it l i := ⟨oi, hm.1, hv.1, hv.2⟩
  refine call_function_entry (by decide +kernel) (by decide +kernel) kdk_entry_next (kdk_args_next2 _ _) ?_
  unfold Builtin.«next»
  refine wpAny_bind (m := someArgs "next" 1 2 _) (wpAny_of_eq (a := [Value.ref it, d]) (by first | rfl | kernel_rfl!) ?_)
  dsimp only
  refine wpAny_bind (wpAny_specialOf (name := Str.ofString "__next__") hit.typeIs slot_listiter_next.lookup ?_)
  refine wpAny_ite_split (fun hab => absurd hab (by decide)) (fun _ => ?_)
  refine wpAny_bind (wpAny_pyNext_list_item hit ⟨_, (N _ hl).1, rfl, nl, rfl⟩ hx fun h' hit' hs => ?_)
  obtain ⟨o', ho', hc', hd'⟩ := hit'
  exact wpAny_pure ⟨_, rfl, h h' o' (F.change hs hm.2.1 hm.2.2) (hg o' ▸ (show News h₀ L s.heap (pre ++ (it, oi) :: post) from hlst ▸ N).setIn a b hs ho') ⟨hc', hd'⟩⟩

/-- next(it, d): the end -/
theorem next2_end {it l : Addr} {i : Nat} {items : Array Value} {d : Value} {oi : Obj} {nl : Nat} {g : Obj → List (Addr × Obj)} {Q : Value → Shared → Prop} (hh : A.handled = none) (F : Fr h₀ L s.heap m) (N : News h₀ L s.heap news) (hv : LiveIt oi l i)
    (U : UpdF it oi news g) (hl : (l, PySem.W.listOf items nl) ∈ news) (hx : items[i]? = none)
    (h : ∀ h' o', Fr h₀ L h' m → News h₀ L h' (g o') → DeadIt o' → Q d { s with heap := h' }) : wpAny (model prog w) A (call (.builtin "next") [.ref it, d]) Q E s := by
  obtain ⟨pre, post, hlst, hg, a, b⟩ := U.split
  have hmem : (it, oi) ∈ news := by rw [hlst]; exact List.mem_append_right _ (.head _)
  have hm := N (it, oi) hmem
  have hit : s.heap.IsListIter it l i := ⟨oi, hm.1, hv.1, hv.2⟩
  refine call_function_entry (by decide +kernel) (by decide +kernel) kdk_entry_next (kdk_args_next2 _ _) ?_
  unfold Builtin.«next»
  refine wpAny_bind (m := someArgs "next" 1 2 _) (wpAny_of_eq (a := [Value.ref it, d]) (by first | rfl | kernel_rfl!) ?_)
  dsimp only
  refine wpAny_bind (wpAny_specialOf (name := Str.ofString "__next__") hit.typeIs slot_listiter_next.lookup ?_)
  refine wpAny_ite_split (fun hab => absurd hab (by decide)) (fun _ => ?_)
  refine wpAny_bind (next_end (A := A.in1) hh hm.1 hv ⟨_, (N _ hl).1, rfl, nl, rfl⟩ hx fun h' o' ho' hd' hk => ?_)
  have F' : Fr h₀ L h' m := by
    obtain ⟨oL, a1, a2, hoL, a3⟩ := F.ns
    exact ⟨⟨oL, a1, a2, hk L oL hm.2.1.symm hoL, a3⟩, fun b o e => hk b o (fun z => by subst z; rw [hm.2.2] at e; cases e) (F.keep b o e), F.above⟩
  have N' : News h₀ L h' (g o') := by
    rw [hg]
    intro p hp
    rcases List.mem_append.mp hp with q | q
    · have z := N p (by rw [hlst]; exact List.mem_append_left _ q)
      exact ⟨hk _ _ (a p q) z.1, z.2⟩
    · rcases List.mem_cons.mp q with rfl | q
      · exact ⟨ho', hm.2⟩
      · have z := N p (by rw [hlst]; exact List.mem_append_right _ (.tail _ q))
        exact ⟨hk _ _ (b p q) z.1, z.2⟩
  exact wpAny_pure ⟨_, rfl, h h' o' F' N' hd'⟩

/-- next(it, d): behind the end -/
theorem next2_dead {it : Addr} {d : Value} {oi : Obj} {Q : Value → Shared → Prop} (hh : A.handled = none) (F : Fr h₀ L s.heap m) (N : News h₀ L s.heap news) (hv : DeadIt oi)
    (hm : (it, oi) ∈ news) (h : ∀ h', Fr h₀ L h' m → News h₀ L h' news → Q d { s with heap := h' }) : wpAny (model prog w) A (call (.builtin "next") [.ref it, d]) Q E s := by
  have hz := N (it, oi) hm
  have hT : s.TypeIs (.ref it) "list_iterator" := ⟨oi, hz.1, hv.1⟩
  refine call_function_entry (by decide +kernel) (by decide +kernel) kdk_entry_next (kdk_args_next2 _ _) ?_
  unfold Builtin.«next»
  refine wpAny_bind (m := someArgs "next" 1 2 _) (wpAny_of_eq (a := [Value.ref it, d]) (by first | rfl | kernel_rfl!) ?_)
  dsimp only
  refine wpAny_bind (wpAny_specialOf (name := Str.ofString "__next__") hT slot_listiter_next.lookup ?_)
  refine wpAny_ite_split (fun hab => absurd hab (by decide)) (fun _ => ?_)
  refine wpAny_bind (next_dead (A := A.in1) hh hz.1 hv fun h' hk => ?_)
  have F' : Fr h₀ L h' m := by
    obtain ⟨oL, a1, a2, hoL, a3⟩ := F.ns
    exact ⟨⟨oL, a1, a2, hk L oL hoL, a3⟩, fun b o e => hk b o (F.keep b o e), F.above⟩
  exact wpAny_pure ⟨_, rfl, h h' F' fun p hp => ⟨hk _ _ (N p hp).1, (N p hp).2⟩⟩
end
end Mine
end
section
open PySem PySem.W PyProof.Rows PySem.Calls
set_option maxRecDepth 100000
set_option maxHeartbeats 4000000
namespace Mine

/-- a def's table of its own code objects: empty, or with its one generator expression's -/
noncomputable def TabOne (pos : Pos) (ps : Array Value) : Prop := ps = #[] ∨ ∃ c' : Addr, ps = #[rawInt pos.line, rawInt pos.col, .ref c']
theorem TabOne.ok {pos : Pos} {ps : Array Value} (h : TabOne pos ps) : TriplesOk ps.toList := by
  rcases h with rfl | ⟨c', rfl⟩
  · exact trivial
  · exact trivial

/-- a generator object whose turns give n values, of which F tells; it writes above K0 alone, and among the generators at g0 -/
noncomputable def GenReady (prog : Program) (w : World) (A : Around) (K0 g0 a n : Nat) (F : Nat → Value → Prop) (s : Shared) : Prop :=
  ∃ fp wr St, WalksS prog w A.in4 a fp wr (GenOnlyQ g0) n F St ∧ St 0 s ∧ (∀ i s', St i s' → s'.TypeIs (.ref a) "generator") ∧ a ∈ fp ∧ (∀ b ∈ fp, b < s.heap.objs.size) ∧ ∀ b ∈ wr, K0 ≤ b

theorem passing_all (n : Nat) : passing (fun _ => true) n 0 = List.range n := by
  unfold passing
  rw [List.drop_zero]
  exact List.filter_eq_self.mpr fun _ _ => rfl

/-- a mark at which the walk stops -/
noncomputable def Halt (P : Prop) : Prop := P
section
variable {prog : Program} {w : World} {A : Around} {E : Value → Shared → Prop} {s : Shared} {h₀ : Heap} {L : Addr} {m : Str → Option Value}

theorem genexp_L {p : Program} {loose : List Str} {mean : ExcName → Option Value} {mg mb : Str → Option Value} {env : Env} {elt iter : Expr} {x : Str} {px : Pos} {scope : Scope} {cl : List (Str × Addr)} {pos : Pos} {Q : Value → Shared → Prop} {c P : Addr}
    (_F : Fr h₀ L s.heap m) (T : Top p loose mean mg mb h₀) (C : CodeHd h₀ c P) (hcode : env.code = .ref c) (hgl : env.globals = mainGlobals)
    (hh : A.handled = none) (hco : scope.isCoroutine = false) (hclos : closureFor scope env = pure cl) (hcell : ∀ y ∈ scope.names, y.2 ≠ .cell) (h0 : scope.names.lookup (".0" : Str) = some NameKind.local)
    (hx : scope.names.lookup x = some .local) (hkind : scope.kind = .function) (hroom : A.depth < recursionLimit)
    (h : wpAny (model prog w) A (eval iter env) (fun xv s₁ => Halt (∃ (l : Addr) (items : Array Value) (nl : Nat) (news : List (Addr × Obj)) (ps : Array Value) (g : Obj → List (Addr × Obj)) (Fp : Nat → Value → Prop),
      xv = .ref l ∧ Fr h₀ L s₁.heap m ∧ News h₀ L s₁.heap news ∧ (l, PySem.W.listOf items nl) ∈ news ∧ UpdF P (tabObj ps) news g ∧ TabOne pos ps ∧
      (∀ (D : Addr) (code : Value) (A' : Around) (E' : Value → Shared → Prop) (i : Nat) (v : Value) (t : Shared) (m₂ : Str → Option Value), A'.handled = none → A'.depth ≤ A.depth + 1 → A'.units ≤ A.units + 8 → items[i]? = some v → t.heap.Ns D m₂ → m₂ x = some v →
        (∀ b o, b ≠ P → s₁.heap.get? b = some o → t.heap.get? b = some o) → wpAny (model prog w) A' (eval elt (genEnv scope cl D code builtinsNs env)) (fun y s₃ => Fp i y ∧ Keeps t s₃) E' t) ∧
      (∀ (a : Addr) (h₅ : Heap) (tk : Nat) (gs : GenState) (ps' : Array Value), gs.bare = true → TabOne pos ps' → Fr h₀ L h₅ m → News h₀ L h₅ (g (tabObj ps')) →
        GenReady prog w A s₁.heap.objs.size s₁.gens.size a items.size Fp { s₁ with gens := s₁.gens.push gs, toks := tk, heap := h₅ } → Q (.ref a) { s₁ with gens := s₁.gens.push gs, toks := tk, heap := h₅ }))) E s)
    (hs : ∀ x, genFold iter env x = pure x) : wpAny (model prog w) A (eval (.GeneratorExp elt [⟨.Name x px, iter, [], 0⟩] scope pos) env) Q E s := by
  refine wpAny_GeneratorExp_walksQD hh hco hclos hcell h0 hx hkind hroom (wpAny_mono h (fun xv s₁ h₁ => ?_) fun _ _ e => e) hs
  refine hideG fun H9 k9 => ?_
  obtain ⟨l, items, nl, news, ps, g, Fp, rfl, F₁, N₁, hl, U, ht, hel, hcont⟩ := h₁
  refine k9 ?_
  clear k9
  have hL : s₁.heap.IsList l items := ⟨_, (N₁ _ hl).1, rfl, nl, rfl⟩
  have hlt : l < s₁.heap.objs.size := Heap.lt_size (N₁ _ hl).1
  refine hideG fun H9 k9 => ?_
  obtain ⟨pre, post, hlst, hgg, hpre, hpost⟩ := U.split
  refine k9 ?_
  clear k9
  have hPm : (P, tabObj ps) ∈ news := by rw [hlst]; exact List.mem_append_right _ (.head _)
  have hPN := N₁ _ hPm
  have hlP : l ≠ P := fun e => by
    have q := (N₁ _ hl).1
    rw [e, hPN.1] at q
    cases q
  refine wpAny_pyIter_list hL ?_
  have F₂ : Fr h₀ L (s₁.heap.push { cls := .type "list_iterator", data := .fields #[.ref l, .int 0 0] }) m := F₁.push _
  refine ⟨T.nolimit.keeps F₂.keep, ?_⟩
  have hP2 : (s₁.heap.push { cls := .type "list_iterator", data := .fields #[.ref l, .int 0 0] }).get? P = some (tabObj ps) := Heap.get?_push_of_some _ hPN.1
  refine hideG fun H9 k9 => ?_
  obtain ⟨bm, ob, M⟩ := bmod_of_top T
  refine k9 ?_
  clear k9
  have key : ∀ (code : Value) (h₃ : Heap) (tk₃ : Nat) (ps' : Array Value), Heap.ExtBut P (s₁.heap.push { cls := .type "list_iterator", data := .fields #[.ref l, .int 0 0] }) h₃ → (s₁.heap.push { cls := .type "list_iterator", data := .fields #[.ref l, .int 0 0] }).objs.size ≤ h₃.objs.size →
      h₃.get? P = some (tabObj ps') → TabOne pos ps' →
      wpAny (model prog w) A (builtinsFor env.globals env.builtins) (fun bi s₄ =>
        ∃ I fp wr n₀ P₁ St₀ pz F, (Value.ref s₁.heap.objs.size) = .ref I ∧ (∀ A' : Around, A'.handled = none → Walks prog w A' I fp wr n₀ P₁ St₀) ∧ St₀ 0 s₄.heap ∧ (∀ b ∈ fp, b < s₄.heap.objs.size) ∧ s₄.heap.NoLimit ∧ cStatics ∉ wr ∧
          (∀ href : Heap, (∀ b o, s₄.heap.get? b = some o → href.get? b = some o) →
            QuietGenD prog w (genEnv scope cl s₄.heap.objs.size code bi env) x [] elt (List.range s₄.heap.objs.size) wr P₁ pz F href (A.depth + 1) (A.units + 8)) ∧
          (∀ a h₅ tk gs, gs.bare = true → s₄.heap.objs.size < a → h₅.objs.size = a + 1 → (∀ b o, s₄.heap.get? b = some o → h₅.get? b = some o) →
            WalksS prog w A.in4 a (a :: s₄.heap.objs.size :: List.range s₄.heap.objs.size) (s₄.heap.objs.size :: wr) (GenOnlyQ s₄.gens.size) (passing pz n₀ 0).length
              (fun j y => ∃ i, (passing pz n₀ 0)[j]? = some i ∧ F i y) (GenAt prog w A.in4 a s₄.gens.size s₄.heap.objs.size (List.range s₄.heap.objs.size) wr pz n₀ F) →
            GenAt prog w A.in4 a s₄.gens.size s₄.heap.objs.size (List.range s₄.heap.objs.size) wr pz n₀ F 0 { s₄ with gens := s₄.gens.push gs, toks := tk, heap := h₅ } →
            Q (.ref a) { s₄ with gens := s₄.gens.push gs, toks := tk, heap := h₅ })) E { s₁ with heap := h₃, toks := tk₃ } := by
    intro code h₃ tk₃ ps' hx₃ hsz hP3 ht'
    have neP : ∀ b o, h₀.get? b = some o → b ≠ P := fun b o e z => by rw [z, hPN.2.2] at e; cases e
    have F₃ : Fr h₀ L h₃ m := by
      obtain ⟨oL, a1, a2, hoL, a3⟩ := F₂.ns
      exact ⟨⟨oL, a1, a2, hx₃ L oL hPN.2.1.symm hoL, a3⟩, fun b o e => hx₃ b o (neP b o e) (F₂.keep b o e), F₂.above⟩
    have M₃ : BMod h₃ mainGlobals mg bm ob := M.keeps F₃.keep
    rw [hgl]
    refine wpAny_builtinsFor M₃.ns M₃.name M₃.ne M₃.obj M₃.cls M₃.dict M₃.data ?_
    have szI : s₁.heap.objs.size < h₃.objs.size := by rw [Heap.size_push] at hsz; omega
    have k13 : ∀ b o, b ≠ P → s₁.heap.get? b = some o → h₃.get? b = some o := fun b o hb e => hx₃ b o hb (Heap.get?_push_of_some _ e)
    have IneP : s₁.heap.objs.size ≠ P := fun e => absurd (Heap.lt_size hPN.1) (by rw [← e]; exact Nat.lt_irrefl _)
    have hcI : cStatics ≠ s₁.heap.objs.size := fun e => by
      obtain ⟨_, hns, _⟩ := T.nolimit.keeps F₁.keep
      exact absurd hns.lt (by rw [e]; exact Nat.lt_irrefl _)
    refine ⟨s₁.heap.objs.size, _, _, items.size, _, _, fun _ => true, Fp, rfl, fun A' hA => Walks.list hA _ l (Nat.ne_of_lt hlt) items, ⟨⟨_, hx₃ _ _ IneP (Heap.get?_push_size _ rfl), rfl, rfl⟩, ⟨_, k13 l _ hlP (N₁ _ hl).1, rfl, nl, rfl⟩⟩, ?_, T.nolimit.keeps F₃.keep, ?_, fun href hhref => ⟨?_, ?_⟩, ?_⟩
    · intro b hb
      rcases List.mem_cons.mp hb with rfl | hb
      · exact szI
      · rw [List.mem_singleton.mp hb]; exact Nat.lt_trans hlt szI
    · intro hb
      exact hcI (List.mem_singleton.mp hb)
    · intro A' E' i v s₂ m₂ hA hD hU hP hn hm hk
      exact wpAny_pure ⟨rfl, ⟨_, _, rfl, fun _ _ e => e⟩⟩
    · intro A' E' i v s₂ m₂ hA hD hU hP _ hn hm hk
      refine hel _ code A' E' i v s₂ m₂ hA hD hU hP hn hm fun b o hb e => ?_
      refine hk b (List.mem_range.mpr ?_) (fun hmem => ?_) o (hhref b o (k13 b o hb e))
      · exact Nat.lt_trans (Heap.lt_size e) szI
      · exact absurd (Heap.lt_size e) (by rw [List.mem_singleton.mp hmem]; exact Nat.lt_irrefl _)
    · intro a h₅ tk gs hgb hag hsz₅ hk₅ W hat
      have F₅ : Fr h₀ L h₅ m := F₃.keeps hk₅
      have N₅ : News h₀ L h₅ (g (tabObj ps')) := by
        rw [hgg]
        intro q hq
        rcases List.mem_append.mp hq with q1 | q1
        · have z := N₁ q (by rw [hlst]; exact List.mem_append_left _ q1)
          exact ⟨hk₅ _ _ (k13 _ _ (hpre q q1) z.1), z.2⟩
        · rcases List.mem_cons.mp q1 with rfl | q1
          · exact ⟨hk₅ _ _ hP3, hPN.2⟩
          · have z := N₁ q (by rw [hlst]; exact List.mem_append_right _ (.tail _ q1))
            exact ⟨hk₅ _ _ (k13 _ _ (hpost q q1) z.1), z.2⟩
      refine hcont a h₅ tk gs ps' hgb ht' F₅ N₅ ?_
      rw [passing_all] at W
      have hlen : (List.range items.size).length = items.size := List.length_range
      rw [hlen] at W
      refine ⟨_, _, _, ⟨W.sub, W.grefl, W.gtrans, W.frame, fun i s Q E hi st hQ => W.item i s Q E hi st fun v s' hv st' mv => hQ v s' ?_ st' mv, W.done, W.self⟩, hat, (fun i s' st => st.1.typeIs), List.mem_cons_self, ?_, ?_⟩
      · obtain ⟨j, hj, hF⟩ := hv
        rw [List.getElem?_range hi] at hj
        cases hj
        exact hF
      · intro b hb
        show b < h₅.objs.size
        rw [hsz₅]
        rcases List.mem_cons.mp hb with rfl | hb
        · exact Nat.lt_succ_self _
        · rcases List.mem_cons.mp hb with rfl | hb
          · exact Nat.lt_succ_of_lt hag
          · exact Nat.lt_succ_of_lt (Nat.lt_trans (List.mem_range.mp hb) hag)
      · intro b hb
        rcases List.mem_cons.mp hb with rfl | hb
        · exact Nat.le_of_lt szI
        · rw [List.mem_singleton.mp hb]; exact Nat.le_refl _
  have Cd : CodeHd (s₁.heap.push { cls := .type "list_iterator", data := .fields #[.ref l, .int 0 0] }) c P := C.keeps F₂.keep
  rcases id ht with rfl | ⟨c', rfl⟩
  · exact wpAny_genexprCodeX hcode (Cd.code hP2 trivial) (Cd.tab hP2) rfl fun c' h' tk hx' hge hlt' _ _ htb _ => key _ h' tk _ hx' (Nat.le_trans hge (Nat.le_of_lt hlt')) htb.2 (.inr ⟨c', rfl⟩)
  · exact wpAny_genexprCode_hit (c' := .ref c') hcode (Cd.code hP2 trivial) (by simp [codeAmong, rawInt]) (key _ _ _ _ (Heap.ExtBut.refl _ _) (Nat.le_refl _) hP2 (.inr ⟨c', rfl⟩))

/-- sep.join(g) -/
theorem join_L {a n K0 g0 : Nat} {F : Nat → Value → Prop} {news : List (Addr × Obj)} {sep : Str} {t : Tok} {Q : Value → Shared → Prop} (Fh : Fr h₀ L s.heap m) (N : News h₀ L s.heap news) (X : GenReady prog w A K0 g0 a n F s)
    (hL : L < K0) (hN : ∀ q ∈ news, q.1 < K0) (h0 : h₀.objs.size ≤ K0) (tx : Nat → Str) (htx : ∀ j v, F j v → ∃ u, v = .str (tx j) u) (hok : JoinOk sep ((List.range n).map tx) = true)
    (hQ : ∀ h' gn' tk' t', Fr h₀ L h' m → News h₀ L h' news → GenOnlyQ g0 s.gens gn' → Q (.str (Txt.join sep ((List.range n).map tx)) t') { s with heap := h', gens := gn', toks := tk' })
    (hsz : n ≤ sizeLine := by size_fits) : wpAny (model prog w) A (call (.builtin "str.join") [.str sep t, .ref a]) Q E s := by
  obtain ⟨fp, wr, St, W, hst, hT, ha, hfp, hwr⟩ := X
  have W := W.in4_2
  refine SC.joinGen W hT hst hfp ha (fun j v hv => let ⟨u, e⟩ := htx j v hv; ⟨_, u, e⟩) (fun s' lt hm hacc => ?_) hsz
  have hl : lt.map (·.1) = (List.range n).map tx := by
    apply List.ext_getElem?
    intro j
    have hsz : lt.length = n := by simpa [strValues] using hacc.1
    by_cases hj : j < n
    · have hj' : j < lt.length := hsz ▸ hj
      obtain ⟨u, hv⟩ := htx j _ (hacc.2 j (.str lt[j].1 lt[j].2) (by simp [strValues, List.getElem?_eq_getElem hj']))
      injection hv with h1 _
      simp [List.getElem?_eq_getElem hj', hj, h1]
    · rw [List.getElem?_eq_none (by simpa [hsz] using Nat.le_of_not_lt hj), List.getElem?_eq_none (by simpa using Nat.le_of_not_lt hj)]
  rw [hl]
  refine ⟨hok, fun t' k => ?_⟩
  obtain ⟨hh', gn', dr', tk', os'⟩ := s'
  have e1 : dr' = s.drawn := hm.drawn
  have e2 : os' = s.os := hm.os
  subst e1 e2
  have kk : ∀ b o, b < K0 → s.heap.get? b = some o → hh'.get? b = some o := fun b o hb e => hm.heap b o (fun hmem => Nat.lt_irrefl _ (Nat.lt_of_lt_of_le hb (hwr b hmem))) e
  refine hQ hh' gn' k t' ?_ (fun q hq => ⟨kk _ _ (hN q hq) (N q hq).1, (N q hq).2⟩) hm.gens
  obtain ⟨oL, a1, a2, hoL, a3⟩ := Fh.ns
  exact ⟨⟨oL, a1, a2, kk L oL hL hoL, a3⟩, fun b o e => kk b o (Nat.lt_of_lt_of_le (Heap.lt_size e) h0) (Fh.keep b o e), Fh.above⟩
end
end Mine
end
section
open PySem PySem.W PyProof.Rows PySem.Calls
set_option maxRecDepth 100000
set_option maxHeartbeats 800000
namespace Mine
section
variable {prog : Program} {w : World} {A : Around} {E : Value → Shared → Prop} {s : Shared} {h₀ : Heap} {L : Addr} {m : Str → Option Value} {env : Env}
/-- an iterator's object -/
noncomputable def IterO (o : Obj) : Prop := o.cls = .type "list_iterator" ∨ o.cls = .type "range_iterator" ∨ o.cls = .type "str_iterator" ∨ o.cls = .type "str_ascii_iterator"
/-- where a turn of a for loop ends -/
noncomputable def TurnEnd (h₀ : Heap) (L I : Addr) (oI : Obj) (s : Shared) (S : List (Addr × Obj) → Prop) (J : (Str → Option Value) → List (Addr × Obj) → Prop) (f : Flow) (s₃ : Shared) : Prop :=
  f = .next ∧ ∃ h' tk' m' nw, s₃ = { s with heap := h', toks := tk' } ∧ Fr h₀ L h' m' ∧ News h₀ L h' ((I, oI) :: nw) ∧ (∀ p ∈ nw, p.1 ≠ I) ∧ S nw ∧ J m' nw
/-- a for loop over anything that walks, at the ledger -/
theorem for_U {target : PySem.Expr} {body : List Stmt} {I : Addr} {fp : List Addr} {n : Nat} {P : Nat → Value → Prop} {St : Nat → Heap → Prop} {S : List (Addr × Obj) → Prop} {news : List (Addr × Obj)} {R : Result → Shared → Prop}
    (W : Walks prog w A I fp [I] n P St) (hIo : ∀ i h, St i h → ∃ o, h.get? I = some o ∧ IterO o)
    (hSt : ∀ i h h' o nw, St i h → h.get? I = some o → h'.get? I = some o → (∀ b o, h₀.get? b = some o → h'.get? b = some o) → News h₀ L h' nw → S nw → St i h')
    (hst : St 0 s.heap) (F : Fr h₀ L s.heap m) (N : News h₀ L s.heap news) (hIL : L ≠ I) (hI₀ : h₀.get? I = none) (off : ∀ p ∈ news, p.1 ≠ I) (hS : S news)
    (J : Nat → (Str → Option Value) → List (Addr × Obj) → Prop) (j0 : J 0 m news)
    (turn : ∀ i v m₁ nw h tk oI (E' : Value → Shared → Prop), i < n → P i v → J i m₁ nw → S nw → Fr h₀ L h m₁ → News h₀ L h ((I, oI) :: nw) → (∀ p ∈ nw, p.1 ≠ I) → IterO oI →
      wpAny (model prog w) A (assign target env v) (fun _ s₂ => wpAny (model prog w) A (execs body env) (TurnEnd h₀ L I oI s S (J (i + 1))) E' s₂) E' { s with heap := h, toks := tk })
    (done : ∀ m₁ nw h tk, J n m₁ nw → S nw → Fr h₀ L h m₁ → News h₀ L h nw → (∀ p ∈ nw, p.1 ≠ I) → R (.ok .next) { s with heap := h, toks := tk })
    (ht : ∀ v, letOwnedTupleGo target (.ref I) v = pure () := by intro _; rfl) :
    codeAny (model prog w) A (.forLoop target (.ref I) body [] env) R s := by
  refine codeAny_forLoop (fun k s' => ∃ h tk i m₁ nw, s' = { s with heap := h, toks := tk } ∧ i ≤ n ∧ k = n + 1 - i ∧ St i h ∧ Fr h₀ L h m₁ ∧ News h₀ L h nw ∧ (∀ p ∈ nw, p.1 ≠ I) ∧ S nw ∧ J i m₁ nw) ?_ (n + 1)
    ⟨s.heap, s.toks, 0, m, news, rfl, Nat.zero_le _, rfl, hst, F, N, off, hS, j0⟩ ht
  intro k s' P92
  refine hideG fun H9 k9 => ?_
  obtain ⟨h, tk, i, m₁, nw, rfl, hi, rfl, hst', F', N', off', hS', hJ⟩ := P92
  refine k9 ?_
  clear k9
  by_cases hlt : i < n
  · refine W.item i _ _ _ hlt hst' fun v h₂ tk₂ hPv hst₂ hk₂ => ?_
    obtain ⟨oI, heI, hIt⟩ := hIo _ _ hst₂
    have F₂ : Fr h₀ L h₂ m₁ := LCg.fr_but F' hk₂ hIL hI₀
    have N₂ : News h₀ L h₂ ((I, oI) :: nw) := fun p hp => by
      rcases List.mem_cons.mp hp with rfl | hp
      · exact ⟨heI, Ne.symm hIL, hI₀⟩
      · exact LCg.news_but N' hk₂ off' p hp
    refine wpAny_mono (turn i v m₁ nw h₂ tk₂ oI _ hlt hPv hJ hS' F₂ N₂ off' hIt) (fun _ s₂ h₂' => wpAny_mono h₂' (fun f s₃ h₃ => ?_) fun _ _ e => e) fun _ _ e => e
    refine hideG fun H9 k9 => ?_
    obtain ⟨rfl, h', tk', m', nw', rfl, F₃, N₃, off₃, hS₃, hJ₃⟩ := h₃
    refine k9 ?_
    clear k9
    exact ⟨n + 1 - (i + 1), by omega, h', tk', i + 1, m', nw', rfl, hlt, rfl, hSt _ _ _ _ _ hst₂ heI (N₃ _ (.head _)).1 F₃.keep (fun p hp => N₃ p (.tail _ hp)) hS₃, F₃, (fun p hp => N₃ p (.tail _ hp)), off₃, hS₃, hJ₃⟩
  · obtain rfl : i = n := Nat.le_antisymm hi (Nat.not_lt.mp hlt)
    refine W.done _ _ _ hst' fun h₂ tk₂ hk₂ => ?_
    exact wpAny_pure (done m₁ nw h₂ tk₂ hJ hS' (LCg.fr_but F' hk₂ hIL hI₀) (LCg.news_but N' hk₂ off') off')
/-- a for loop over a text -/
theorem for_str {target : PySem.Expr} {body : List Stmt} {news : List (Addr × Obj)} {x : Str} {t : Tok} {R : Result → Shared → Prop} (hh : A.handled = none)
    (F : Fr h₀ L s.heap m) (N : News h₀ L s.heap news) (J : Nat → (Str → Option Value) → List (Addr × Obj) → Prop) (j0 : J 0 m news)
    (turn : ∀ I i v m₁ nw h tk oI (E' : Value → Shared → Prop), (∀ p ∈ news, p.1 < I) → i < x.cps.size → SignAt x i v → J i m₁ nw → Fr h₀ L h m₁ → News h₀ L h ((I, oI) :: nw) → (∀ p ∈ nw, p.1 ≠ I) → IterO oI →
      wpAny (model prog w) A (assign target env v) (fun _ s₂ => wpAny (model prog w) A (execs body env) (TurnEnd h₀ L I oI s (fun _ => True) (J (i + 1))) E' s₂) E' { s with heap := h, toks := tk })
    (done : ∀ m₁ nw h tk, J x.cps.size m₁ nw → Fr h₀ L h m₁ → News h₀ L h nw → R (.ok .next) { s with heap := h, toks := tk })
    (ht : ∀ I v, letOwnedTupleGo target (.ref I) v = pure () := by intro _ _; rfl) :
    wpAny (model prog w) A (pyIter (.str x t)) (fun it s₂ => codeAny (model prog w) A (.forLoop target it body [] env) R s₂) E s := by
  have key : ∀ (ty : String) (o : Obj), ty = "str_iterator" ∨ ty = "str_ascii_iterator" → Walks prog w A s.heap.objs.size [s.heap.objs.size] [s.heap.objs.size] x.cps.size (SignAt x) (fun i h => h.IsStrIter s.heap.objs.size ty x t i) → (s.heap.push o).IsStrIter s.heap.objs.size ty x t 0 →
      codeAny (model prog w) A (.forLoop target (.ref s.heap.objs.size) body [] env) R { s with heap := s.heap.push o } := fun ty o hty W hst =>
    for_U W (S := fun _ => True) (fun _ _ st => by obtain ⟨o, e, c, _⟩ := st; exact ⟨o, e, by rcases hty with rfl | rfl; exact .inr (.inr (.inl c)); exact .inr (.inr (.inr c))⟩) (fun i h h' o nw st e e' _ _ _ => by obtain ⟨o', q, r⟩ := st; rw [e] at q; cases q; exact ⟨o, e', r⟩) hst
      (F.push _) (N.grown fun _ _ e => Heap.get?_push_of_some _ e) (Nat.ne_of_lt F.ns.lt) (next_is_new F) (fun p hp => Nat.ne_of_lt (Heap.lt_size (N p hp).1)) trivial J j0
      (fun i v m₁ nw h tk oI E' hi hP hJ _ F₁ N₁ off it => turn _ i v m₁ nw h tk oI E' (fun p hp => Heap.lt_size (N p hp).1) hi hP hJ F₁ N₁ off it) (fun m₁ nw h tk hJ _ F₁ N₁ _ => done m₁ nw h tk hJ F₁ N₁) (ht _)
  cases ha : x.cps.all (· < 128)
  · exact wpAny_pyIter_wide ha (key "str_iterator" _ (.inl rfl) (Walks.strWide hh _ x t) ⟨_, Heap.get?_push_size _ rfl, rfl, rfl⟩)
  · exact wpAny_pyIter_ascii ha (key "str_ascii_iterator" _ (.inr rfl) (Walks.strAscii hh _ x t) ⟨_, Heap.get?_push_size _ rfl, rfl, rfl⟩)
/-- a for loop over a list of the ledger -/
theorem for_list {target : PySem.Expr} {body : List Stmt} {news : List (Addr × Obj)} {ax : Addr} {its : Array Value} {k : Nat} {R : Result → Shared → Prop} (hh : A.handled = none)
    (F : Fr h₀ L s.heap m) (N : News h₀ L s.heap news) (hm : (ax, ({ cls := .type "list", data := .seq its k } : Obj)) ∈ news) (J : Nat → (Str → Option Value) → List (Addr × Obj) → Prop) (j0 : J 0 m news)
    (turn : ∀ I i v m₁ nw h tk oI (E' : Value → Shared → Prop), (∀ p ∈ news, p.1 < I) → i < its.size → its[i]? = some v → J i m₁ nw → (ax, ({ cls := .type "list", data := .seq its k } : Obj)) ∈ nw → Fr h₀ L h m₁ → News h₀ L h ((I, oI) :: nw) → (∀ p ∈ nw, p.1 ≠ I) → IterO oI →
      wpAny (model prog w) A (assign target env v) (fun _ s₂ => wpAny (model prog w) A (execs body env) (TurnEnd h₀ L I oI s (fun nw => (ax, ({ cls := .type "list", data := .seq its k } : Obj)) ∈ nw) (J (i + 1))) E' s₂) E' { s with heap := h, toks := tk })
    (done : ∀ m₁ nw h tk, J its.size m₁ nw → (ax, ({ cls := .type "list", data := .seq its k } : Obj)) ∈ nw → Fr h₀ L h m₁ → News h₀ L h nw → R (.ok .next) { s with heap := h, toks := tk })
    (ht : ∀ I v, letOwnedTupleGo target (.ref I) v = pure () := by intro _ _; rfl) :
    wpAny (model prog w) A (pyIter (.ref ax)) (fun it s₂ => codeAny (model prog w) A (.forLoop target it body [] env) R s₂) E s := by
  have hl : s.heap.IsList ax its := ⟨_, (N _ hm).1, rfl, k, rfl⟩
  have hlt : ax < s.heap.objs.size := Heap.lt_size (N _ hm).1
  refine wpAny_pyIter_list hl ?_
  have up : ∀ b o, s.heap.get? b = some o → (s.heap.push { cls := .type "list_iterator", data := .fields #[.ref ax, .int 0 0] }).get? b = some o := fun b o e => Heap.get?_push_of_some _ e
  exact for_U (Walks.list hh s.heap.objs.size ax (Nat.ne_of_lt hlt) its) (S := fun nw => (ax, ({ cls := .type "list", data := .seq its k } : Obj)) ∈ nw) (fun i h st => by obtain ⟨o, e, c, _⟩ := st.1; exact ⟨o, e, .inl c⟩)
    (fun i h h' o nw st e e' _ N' S => ⟨by obtain ⟨o', q, r⟩ := st.1; rw [e] at q; cases q; exact ⟨o, e', r⟩, ⟨_, (N' _ S).1, rfl, k, rfl⟩⟩) ⟨⟨_, Heap.get?_push_size _ rfl, rfl, rfl⟩, hl.push _⟩
    (F.push _) (N.grown up) (Nat.ne_of_lt F.ns.lt) (next_is_new F) (fun p hp => Nat.ne_of_lt (Heap.lt_size (N p hp).1)) hm J j0
    (fun i v m₁ nw h tk oI E' hi hP hJ hS F₁ N₁ off it => turn _ i v m₁ nw h tk oI E' (fun p hp => Heap.lt_size (N p hp).1) hi hP hJ hS F₁ N₁ off it) (fun m₁ nw h tk hJ hS F₁ N₁ _ => done m₁ nw h tk hJ hS F₁ N₁) (ht _)
/-- a for loop over a range object -/
theorem for_range {target : PySem.Expr} {body : List Stmt} {news : List (Addr × Obj)} {r : Addr} {a b c : Int} {t u v : Tok} {n : Nat} {R : Result → Shared → Prop} (hh : A.handled = none)
    (F : Fr h₀ L s.heap m) (N : News h₀ L s.heap news) (hr : IsRange s.heap r a b c t u v) (hsm : Builtin.Range.small a b c = true) (hn : Builtin.Range.rangeSize a b c = ((n : Nat) : Int)) (J : Nat → (Str → Option Value) → List (Addr × Obj) → Prop) (j0 : J 0 m news)
    (turn : ∀ I i v m₁ nw h tk oI (E' : Value → Shared → Prop), (∀ p ∈ news, p.1 < I) → i < n → (∃ t, v = .int (a + (i : Int) * c) t) → J i m₁ nw → Fr h₀ L h m₁ → News h₀ L h ((I, oI) :: nw) → (∀ p ∈ nw, p.1 ≠ I) → IterO oI →
      wpAny (model prog w) A (assign target env v) (fun _ s₂ => wpAny (model prog w) A (execs body env) (TurnEnd h₀ L I oI s (fun _ => True) (J (i + 1))) E' s₂) E' { s with heap := h, toks := tk })
    (done : ∀ m₁ nw h tk, J n m₁ nw → Fr h₀ L h m₁ → News h₀ L h nw → R (.ok .next) { s with heap := h, toks := tk })
    (ht : ∀ I v, letOwnedTupleGo target (.ref I) v = pure () := by intro _ _; rfl) :
    wpAny (model prog w) A (pyIter (.ref r)) (fun it s₂ => codeAny (model prog w) A (.forLoop target it body [] env) R s₂) E s := by
  refine wpAny_pyIter_range hr hsm ?_
  exact for_U (Walks.range hh _ a c n) (S := fun _ => True) (fun i h st => ⟨_, st, .inr (.inl rfl)⟩)
    (fun i h h' o nw st e e' _ _ _ => by
      have st' : h.get? _ = some _ := st
      show h'.get? _ = some _
      rw [e', ← e]; exact st') (by show IsRangeIter _ _ _ _ _; rw [hn]; simpa using Heap.get?_push_size _ rfl)
    (F.push _) (N.grown fun _ _ e => Heap.get?_push_of_some _ e) (Nat.ne_of_lt F.ns.lt) (next_is_new F) (fun p hp => Nat.ne_of_lt (Heap.lt_size (N p hp).1)) trivial J j0
    (fun i v m₁ nw h tk oI E' hi hP hJ hS F₁ N₁ off it => turn _ i v m₁ nw h tk oI E' (fun p hp => Heap.lt_size (N p hp).1) hi hP hJ F₁ N₁ off it) (fun m₁ nw h tk hJ hS F₁ N₁ _ => done m₁ nw h tk hJ F₁ N₁) (ht _)
/-- a list comprehension over a text, its end as a value -/
theorem comp_str {elt iter : PySem.Expr} {x : Str} {px : Pos} {scope : Scope} {cl : List (Str × Addr)} {pos : Pos} {Q : Value → Shared → Prop} (F₀ : Fr h₀ L s.heap m) (hh : A.handled = none)
    (hclos : closureFor scope env = pure cl) (hcell : ∀ y ∈ scope.names, y.2 ≠ .cell) (hkind : scope.kind = .function)
    (hnames : ∀ y ∈ scope.names, y.2 = .local → scope.names.lookup y.1 = some .local) (hx : scope.names.lookup x = some .local)
    (h : wpAny (model prog w) A (eval iter env) (fun xv s₁ => ∃ z t news, xv = .str z t ∧ Fr h₀ L s₁.heap m ∧ News h₀ L s₁.heap news ∧ z.cps.size ≤ sizeLine ∧
      ∀ g, LCg.CompRest prog w A h₀ L m env elt x scope cl { s₁ with heap := g } (fun _ => True) (SignAt z) (LCg.FinE h₀ L m { s₁ with heap := g } Q) z.cps.size 0 [] news) E s)
    (hs : ∀ x, foldedSetIterable iter env x = pure x := by intro _; rfl) :
    wpAny (model prog w) A (eval (.ListComp elt [⟨.Name x px, iter, [], 0⟩] scope pos) env) Q E s := by
  rw [eval_ListComp]
  refine wpAny_comprehension_free (use := none) rfl hs hclos hkind hnames (wpAny_mono h (fun xv s₁ h₁ => ?_) fun _ _ e => e)
  refine hideG fun H9 k9 => ?_
  obtain ⟨z, t, news, rfl, F, N, hsz, R⟩ := h₁
  refine k9 ?_
  clear k9
  have key : ∀ (ty : String) (o : Obj), Walks prog w A s₁.heap.objs.size [s₁.heap.objs.size] [s₁.heap.objs.size] z.cps.size (SignAt z) (fun i h => h.IsStrIter s₁.heap.objs.size ty z t i) → (s₁.heap.push o).IsStrIter s₁.heap.objs.size ty z t 0 →
      wpAny (model prog w) A (newList []) (fun acc s₃ => wpAny (model prog w) A (newFunctionEnv scope env.globals cl [] env.qual none .none (some env)) (fun cenv s₄ =>
        codeAny (model prog w) A (.compStart (.ListComp elt [⟨.Name x px, iter, [], 0⟩] scope pos) 0 (.ref s₁.heap.objs.size) acc { cenv with scope := relabel scope env }) (compPost (model prog w) A E none Q acc cenv.locals) s₄) E s₃) E { s₁ with heap := s₁.heap.push o } := fun ty o W hst => by
    refine LCg.block_U (RR := fun acc C => compPost (model prog w) A E none Q acc C) W hsz (S := fun _ => True) (fun i h st => by obtain ⟨o, e, _⟩ := st; exact ⟨o, e⟩) (fun i h h' o nw st e e' _ _ _ => by obtain ⟨o', q, r⟩ := st; rw [e] at q; cases q; exact ⟨o, e', r⟩)
      hcell hkind hx hst (fun b hb => ?_) (F.push _) (N.grown fun _ _ e => Heap.get?_push_of_some _ e) (Nat.ne_of_lt F.ns.lt) (next_is_new F) (fun p hp => Nat.ne_of_lt (Heap.lt_size (N p hp).1)) trivial (R _) ?_
    · rw [List.mem_singleton.mp hb]
      show s₁.heap.objs.size < (s₁.heap.push _).objs.size
      rw [Heap.size_push]; exact Nat.lt_succ_self _
    · intro D C h tk m' ys news' F' N' o1 hn hC₀ hD₀ hCL hDL hCD offC fin
      refine ⟨m', hn, fun h'' hs'' => fin D h'' tk (F'.change hs'' hCL hC₀) (fun p hp => ?_) o1⟩
      refine ⟨hs''.extBut _ _ ?_ (N' p hp).1, (N' p hp).2⟩
      rcases List.mem_cons.mp hp with rfl | hp
      · exact Ne.symm hCD
      · exact offC p hp
  cases ha : z.cps.all (· < 128)
  · exact wpAny_pyIter_wide ha (key "str_iterator" _ (Walks.strWide hh _ z t) ⟨_, Heap.get?_push_size _ rfl, rfl, rfl⟩)
  · exact wpAny_pyIter_ascii ha (key "str_ascii_iterator" _ (Walks.strAscii hh _ z t) ⟨_, Heap.get?_push_size _ rfl, rfl, rfl⟩)
end
end Mine
end
section
open PySem PySem.W PyProof.Rows PySem.Calls
set_option maxRecDepth 100000
set_option maxHeartbeats 800000
namespace Mine
section
variable {prog : Program} {w : World} {A : Around} {E : Value → Shared → Prop} {s : Shared} {h₀ : Heap} {L D b : Addr} {m : Str → Option Value} {news news' : List (Addr × Obj)}
theorem inplaceAdd_list {Q : Value → Shared → Prop} (ha : s.TypeIs (.ref D) "list") (hb : s.TypeIs (.ref b) "list")
    (hc : wpAny (model prog w) A (call (.builtin "list.__iadd__") [.ref D, .ref b]) Q E s) : wpAny (model prog w) A (inplaceOp .Add (.ref D) (.ref b)) Q E s := by
  unfold inplaceOp
  refine wpAny_holding ?_
  have hfi : fillsInplaceSlot (.type "list") "add" (Operator.Add == .Add) = pure false := by
    unfold fillsInplaceSlot
    show (typeLookup (.type "list") (dunderI "add") >>= fun fi => pure (fi.isSome && !isSeqSlot fi)) = pure false
    rw [PySem.F.slot_list_iadd.lookup]
    rfl
  have hsi : seqSlot? (.type "list") (dunderI "add") = pure (some (.builtin "list.__iadd__")) := PySem.seqSlot_of PySem.F.slot_list_iadd.lookup (by decide +kernel)
  refine wpAny_bind (wpAny_typeOf ha (wpAny_bind (wpAny_of_eq hfi ?_)))
  show wpAny _ A (if false = true then _ else _) Q E s
  rw [if_neg Bool.false_ne_true]
  refine wpAny_bind (PySem.wpAny_binaryOp1_none (nm := "add") ha hb PySem.noFill_list_add ?_)
  refine wpAny_bind (wpAny_of_eq hsi ?_)
  exact wpAny_bind (wpAny_rule hc)
/-- a list grown in place by a list -/
theorem iaddL {vs ws : List Value} {n n2 : Nat} {Q : Value → Shared → Prop} (F : Fr h₀ L s.heap m) (N : News h₀ L s.heap news) (hb : (b, PySem.W.listOf ws.toArray n2) ∈ news)
    (U : Upd D (PySem.W.listOf vs.toArray n) (PySem.W.listOf (vs ++ ws).toArray (if ws.length = 0 then n else n + 1)) news news') (hsz : vs.length + ws.length ≤ 1000)
    (h : ∀ h', Fr h₀ L h' m → News h₀ L h' news' → Q (.ref D) { s with heap := h' }) : wpAny (model prog w) A (inplaceOp .Add (.ref D) (.ref b)) Q E s := by
  obtain ⟨pre, post, rfl, rfl, a, c⟩ := U.split
  have z := N (D, PySem.W.listOf vs.toArray n) (List.mem_append.mpr (.inr (.head _)))
  have hz : vs.toArray.size + ws.toArray.size ≤ sizeLine := by simp only [List.size_toArray]; exact Nat.le_trans hsz (by decide)
  refine inplaceAdd_list ⟨_, z.1, rfl⟩ ⟨_, (N _ hb).1, rfl⟩ ?_
  refine call_meets PySem.F.slot_list_iadd ⟨_, z.1, rfl⟩ PySem.F.entry_list_iadd (PySem.F.args_list_iadd_2 _ _) (PySem.AutoSeq1.list___iadd___list_list_0 D vs.toArray n b ws.toArray n2 (extend_door hz) (Nat.le_trans (Nat.le_add_right _ _) hz) (Nat.le_succ_of_le hz)) ⟨z.1, (N _ hb).1, h _ (F.change (Heap.SameBut.update ..) z.2.1 z.2.2) ?_⟩
  by_cases hw : ws.length = 0
  · rw [if_pos hw]
    have e : ws = [] := List.eq_nil_of_length_eq_zero hw
    subst e
    exact kl_turn0 (fun x => x ++ ([] : List Value).toArray) N a c (by simp) (by simp)
  · rw [if_neg hw]
    exact kl_turn (fun x => x ++ ws.toArray) N a c (by simp) (by rw [List.size_toArray, List.size_toArray, List.length_append]; omega)
end
end Mine
end
section
open PySem PySem.W PyProof.Rows PySem.Calls
set_option maxRecDepth 100000
set_option maxHeartbeats 800000
namespace Mine
section
variable {prog : Program} {w : World} {A : Around} {E : Value → Shared → Prop} {s : Shared} {h₀ : Heap} {L : Addr} {m : Str → Option Value} {env : Env}
/-- a for loop over a list of the ledger, its items taken apart by a tuple of names -/
theorem for_listT {elts : List PySem.Expr} {x1 : Tok} {pt : Pos} {body : List Stmt} {news : List (Addr × Obj)} {ax : Addr} {its : Array Value} {k : Nat} {R : Result → Shared → Prop} (hh : A.handled = none) (href : ∀ v ∈ its.toList, ∃ a, v = Value.ref a)
    (F : Fr h₀ L s.heap m) (N : News h₀ L s.heap news) (hm : (ax, ({ cls := .type "list", data := .seq its k } : Obj)) ∈ news) (J : Nat → (Str → Option Value) → List (Addr × Obj) → Prop) (j0 : J 0 m news)
    (turn : ∀ I i v m₁ nw h tk oI (E' : Value → Shared → Prop), (∀ p ∈ news, p.1 < I) → i < its.size → its[i]? = some v → J i m₁ nw → (ax, ({ cls := .type "list", data := .seq its k } : Obj)) ∈ nw → Fr h₀ L h m₁ → News h₀ L h ((I, oI) :: nw) → (∀ p ∈ nw, p.1 ≠ I) → IterO oI →
      wpAny (model prog w) A (assign (.Tuple elts x1 pt) env v) (fun _ s₂ => wpAny (model prog w) A (execs body env) (TurnEnd h₀ L I oI s (fun nw => (ax, ({ cls := .type "list", data := .seq its k } : Obj)) ∈ nw) (J (i + 1))) E' s₂) E' { s with heap := h, toks := tk })
    (done : ∀ m₁ nw h tk, J its.size m₁ nw → (ax, ({ cls := .type "list", data := .seq its k } : Obj)) ∈ nw → Fr h₀ L h m₁ → News h₀ L h nw → R (.ok .next) { s with heap := h, toks := tk }) :
    wpAny (model prog w) A (pyIter (.ref ax)) (fun it s₂ => codeAny (model prog w) A (.forLoop (.Tuple elts x1 pt) it body [] env) R s₂) E s := by
  have hl : s.heap.IsList ax its := ⟨_, (N _ hm).1, rfl, k, rfl⟩
  have hlt : ax < s.heap.objs.size := Heap.lt_size (N _ hm).1
  refine wpAny_pyIter_list hl ?_
  have up : ∀ b o, s.heap.get? b = some o → (s.heap.push { cls := .type "list_iterator", data := .fields #[.ref ax, .int 0 0] }).get? b = some o := fun b o e => Heap.get?_push_of_some _ e
  have W := Walks.list (prog := prog) (w := w) hh s.heap.objs.size ax (Nat.ne_of_lt hlt) its
  generalize hI : s.heap.objs.size = I at W up ⊢
  have hIL : L ≠ I := hI ▸ Nat.ne_of_lt F.ns.lt
  have hI₀ : h₀.get? I = none := hI ▸ next_is_new F
  have hlt' : ∀ p ∈ news, p.1 < I := fun p hp => hI ▸ Heap.lt_size (N p hp).1
  refine codeAny_forLoop_any (fun k' s' => ∃ h tk i m₁ nw, s' = { s with heap := h, toks := tk } ∧ i ≤ its.size ∧ k' = its.size + 1 - i ∧ (h.IsListIter I ax i ∧ h.IsList ax its) ∧ Fr h₀ L h m₁ ∧ News h₀ L h nw ∧ (∀ p ∈ nw, p.1 ≠ I) ∧ (ax, ({ cls := .type "list", data := .seq its k } : Obj)) ∈ nw ∧ J i m₁ nw) ?_ (its.size + 1)
    ⟨_, s.toks, 0, m, news, rfl, Nat.zero_le _, rfl, ⟨⟨_, by rw [← hI]; exact Heap.get?_push_size _ rfl, rfl, rfl⟩, hl.push _⟩, F.push _, N.grown up, fun p hp => Nat.ne_of_lt (hlt' p hp), hm, j0⟩
  intro k' s' P92
  refine hideG fun H9 k9 => ?_
  obtain ⟨h, tk, i, m₁, nw, rfl, hi, rfl, hst', F', N', off', hS', hJ⟩ := P92
  refine k9 ?_
  clear k9
  by_cases hlt : i < its.size
  · refine W.item i _ _ _ hlt hst' fun v h₂ tk₂ hPv hst₂ hk₂ => ?_
    refine hideG fun H9 k9 => ?_
    obtain ⟨oI, heI, hcI, hdI⟩ := hst₂.1
    refine k9 ?_
    clear k9
    have hv : its[i]? = some v := hPv
    obtain ⟨a, rfl⟩ := href v (Array.mem_toList_iff.mpr (Array.mem_of_getElem? hv))
    refine wpAny_letOwnedTupleGo_listiter hst₂.1 ?_
    have F₂ : Fr h₀ L h₂ m₁ := LCg.fr_but F' hk₂ hIL hI₀
    have N₂ : News h₀ L h₂ ((I, oI) :: nw) := fun p hp => by
      rcases List.mem_cons.mp hp with rfl | hp
      · exact ⟨heI, Ne.symm hIL, hI₀⟩
      · exact LCg.news_but N' hk₂ off' p hp
    refine wpAny_mono (turn I i _ m₁ nw h₂ tk₂ oI _ hlt' hlt hv hJ hS' F₂ N₂ off' (.inl hcI)) (fun _ s₂ h₂' => wpAny_mono h₂' (fun f s₃ h₃ => ?_) fun _ _ e => e) fun _ _ e => e
    refine hideG fun H9 k9 => ?_
    obtain ⟨rfl, h', tk', m', nw', rfl, F₃, N₃, off₃, hS₃, hJ₃⟩ := h₃
    refine k9 ?_
    clear k9
    exact ⟨its.size + 1 - (i + 1), by omega, h', tk', i + 1, m', nw', rfl, hlt, rfl, ⟨⟨oI, (N₃ _ (.head _)).1, hcI, hdI⟩, ⟨_, (N₃ _ (.tail _ hS₃)).1, rfl, k, rfl⟩⟩, F₃, (fun p hp => N₃ p (.tail _ hp)), off₃, hS₃, hJ₃⟩
  · obtain rfl : i = its.size := Nat.le_antisymm hi (Nat.not_lt.mp hlt)
    refine W.done _ _ _ hst' fun h₂ tk₂ hk₂ => ?_
    exact wpAny_pure (done m₁ nw h₂ tk₂ hJ hS' (LCg.fr_but F' hk₂ hIL hI₀) (LCg.news_but N' hk₂ off'))
end
end Mine
end
section
open PySem PySem.W PyProof.Rows PySem.Calls PySem.Builtin.Str
set_option maxRecDepth 100000
set_option maxHeartbeats 400000
namespace Mine
theorem endsTup {prog : Program} {w : World} {A : Around} {E : Value → Shared → Prop} {s : Shared} {x y1 y2 : Str} {t u1 u2 : Tok} {D : Addr} {n : Nat} {Q : Value → Shared → Prop} (hD : s.heap.get? D = some { cls := .type "tuple", data := .seq #[.str y1 u1, .str y2 u2] n })
    (h : Q (.bool (Txt.endswith x y1 || Txt.endswith x y2)) s) : wpAny (model prog w) A (call (.builtin "str.endswith") [.str x t, .ref D]) Q E s := by
  refine wpAny_call_entry F.slot_str_endswith (typeIs_str _ _ _) F.entry_str_endswith ?_ (F.args_str_endswith_2 _ _)
  show wpAny _ _ (affixEntry "endswith" (fun s lo hi p => lo + p.length ≤ hi && subAt s p (hi - p.length)) ⟨[.str x t, .ref D], []⟩) _ _ s
  unfold affixEntry
  refine wpAny_bind (m := strSomeArgs "endswith" 1 3 _) (wpAny_of_eq (a := (.str x t, x, [.ref D])) (by rfl) ?_)
  dsimp only
  refine wpAny_bind (wpAny_of_eq (a := (0, x.length)) (searchRange_nil _) ?_)
  refine wpAny_bind (m := asStr? (.ref D)) (wpAny_bind (wpAny_load hD (wpAny_pure ?_)))
  dsimp only
  refine wpAny_bind (m := isInstance (.ref D) (.type "tuple")) (wpAny_isInstance (T := "tuple") (b := true) ⟨_, hD, rfl⟩ (by kernel_rfl) ?_)
  rw [if_pos rfl]
  refine wpAny_bind (wpAny_rule ?_)
  refine wpAny_bind (m := seqItems? (.ref D)) (wpAny_seqItems hD rfl ?_)
  dsimp only
  have e : ∀ y : Str, (decide (0 + y.length ≤ x.length) && subAt x y (x.length - y.length)) = Txt.endswith x y := fun _ => rfl
  simp only [e]
  rw [← Array.forIn_toList]
  simp only [List.forIn_cons, List.forIn_nil]
  have ea : ∀ (y : Str) (u : Tok), asStr? (.str y u) = pure (some y) := fun _ _ => rfl
  simp only [ea, pure_bind]
  cases h1 : Txt.endswith x y1 with
  | true =>
    simp only [h1, Bool.true_or] at h
    simp only [if_true]
    refine wpAny_bind (wpAny_bind (wpAny_bind (m := ret _) ?_))
    exact wpAny_pure (wpAny_pure (wpAny_pure (wpAny_pure ⟨_, rfl, h⟩)))
  | false =>
    simp only [h1, Bool.false_or] at h
    simp only [Bool.false_eq_true, if_false]
    cases h2 : Txt.endswith x y2 with
    | true =>
      rw [h2] at h
      simp only [if_true]
      refine wpAny_bind (wpAny_bind (wpAny_pure ?_))
      dsimp only
      refine wpAny_bind (wpAny_bind (m := ret _) ?_)
      exact wpAny_pure (wpAny_pure (wpAny_pure (wpAny_pure ⟨_, rfl, h⟩)))
    | false =>
      rw [h2] at h
      simp only [Bool.false_eq_true, if_false]
      refine wpAny_bind (wpAny_bind (wpAny_pure ?_))
      dsimp only
      refine wpAny_bind (wpAny_pure (wpAny_pure ?_))
      dsimp only
      exact wpAny_pure ⟨_, rfl, h⟩
end Mine
end
section
open PySem PySem.W PyProof.Rows PySem.Calls PySem.NumText
set_option maxRecDepth 100000
set_option maxHeartbeats 3200000
namespace Mine
theorem typeCall_int_2 (a b : Value) : checkTypeCall "int" ⟨[a, b], []⟩ = pure () := by kernel_rfl
theorem newCall_int_2 (a b : Value) : checkBuiltinCall "int.__new__" ⟨[.type "int", a, b], []⟩ = pure () := by kernel_rfl
theorem initArgs_3 (a b c : Value) : argsOk "object.__init__" ⟨[a, b, c], []⟩ := by unfold argsOk; kernel_rfl
/-- what int(text, base) reads -/
noncomputable abbrev reads (b : Nat) (text : List Nat) (n : Int) : Prop := (int_private% "readNumeral") 0 b text = (int_private% "Numeral.value") n
theorem wp_textB {M : Model} {A : Around} {E : Value → Shared → Prop} {s : Shared} {Q : Value → Shared → Prop} {v : Value} {text : List Nat} {b : Nat} {n : Int}
    (hs : (text.takeWhile (· != 0)).length ≤ 640) (hr : (int_private% "readNumeral") 0 b (text.takeWhile (· != 0)) = (int_private% "Numeral.value") n)
    (ha : ((text.takeWhile (· != 0)).length == text.length) = true) (h : Q (.int n s.toks) { s with toks := s.toks + 1 }) :
    wpAny M A ((int_private% "intFromText") v text b) Q E s := by
  obtain ⟨hp, g, d, tk, os⟩ := s
  repeat (any_goals (first
    | assumption
    | (with_reducible refine wpAny_ite_true (decide_eq_true hs) ?_)
    | (with_reducible refine wpAny_ite_true (decide_eq_true ha) ?_)
    | wp_step))
  all_goals (try rw [hr])
  all_goals (try dsimp only)
  repeat (any_goals (first
    | assumption
    | (with_reducible refine wpAny_ite_true (decide_eq_true hs) ?_)
    | (with_reducible refine wpAny_ite_true (decide_eq_true ha) ?_)
    | wp_step))
structure HidB (p : Prop) : Prop where
  out : p
theorem gives_textB {x : PySem.Str} {u t : Tok} {b : Nat} {n : Int} (hb : 2 ≤ b) (hb2 : b ≤ 36) (hl : x.length ≤ 640) (hasc : x.cps.all (· < 128) = true) (h0 : x.cps.toList.takeWhile (· != 0) = x.cps.toList) (hn : reads b x.cps.toList n) :
    Gives (Builtin.«int.__new__» ⟨[.type "int", .str x u, .int b t], []⟩) (.int n) :=
  .of_wp fun M A E s Q h => by
    obtain ⟨hp, g, d, tk, os⟩ := s
    have f1 := F.conv_sub_int
    have f2 := F.madeHere_int
    have hs : (x.cps.toList.takeWhile (· != 0)).length ≤ 640 := by rw [h0, Array.length_toList]; exact hl
    have ha : ((x.cps.toList.takeWhile (· != 0)).length == x.cps.toList.length) = true := by rw [h0]; exact beq_self_eq_true _
    have hr : (int_private% "readNumeral") 0 b (x.cps.toList.takeWhile (· != 0)) = (int_private% "Numeral.value") n := by rw [h0]; exact hn
    have hk := HidB.mk (And.intro hs (And.intro hr ha))
    clear hs hr hl hn h0 ha
    repeat (any_goals (first
      | assumption
      | ((with_reducible show wpAny _ _ ((int_private% "intFromText") _ _ _) _ _ _); refine wp_textB hk.out.1 hk.out.2.1 hk.out.2.2 ?_)
      | wp_step))
    have hb3 : ((b : Int) != 0 && decide ((b : Int) < 2) || decide ((b : Int) > 36)) = false := by
      have e1 : decide ((b : Int) < 2) = false := decide_eq_false (by omega)
      have e2 : decide ((b : Int) > 36) = false := decide_eq_false (by omega)
      rw [e1, e2]; simp
    rw [if_neg (by rw [hb3]; decide), Int.toNat_natCast]
    repeat (any_goals (first
      | assumption
      | ((with_reducible show wpAny _ _ ((int_private% "intFromText") _ _ _) _ _ _); rw [if_pos hasc]; refine wp_textB hk.out.1 hk.out.2.1 hk.out.2.2 ?_)
      | wp_step))
    all_goals trace_state
    all_goals first | exact ⟨_, rfl, h⟩ | skip
theorem call_textB {prog : Program} {w : World} {A : Around} {E : Value → Shared → Prop} {s : Shared} {Q : Value → Shared → Prop} {x : PySem.Str} {u t : Tok} {b : Nat} {n : Int} (hb : 2 ≤ b) (hb2 : b ≤ 36) (hl : x.length ≤ 640) (hasc : x.cps.all (· < 128) = true) (h0 : x.cps.toList.takeWhile (· != 0) = x.cps.toList) (hn : reads b x.cps.toList n)
    (h : Q (.int n s.toks) { s with toks := s.toks + 1 }) : wpAny (model prog w) A (call (.type "int") [.str x u, .int b t]) Q E s :=
  callType_new F.called_int F.newNe_int (typeCall_int_2 _ _) (newCall_int_2 _ _) (fun obj => initArgs_3 obj _ _) F.entry_int_new (gives_textB hb hb2 hl hasc h0 hn).meets (show (Made.int n).post _ s from ⟨rfl, h⟩)
end Mine
end
section
open PySem PySem.W PyProof.Rows PySem.Calls PySem.NumText
set_option maxRecDepth 100000
set_option maxHeartbeats 800000
namespace Mine
/-- a sign that is a digit of base b, in small letters -/
noncomputable def IsDig (b c : Nat) : Prop := (48 ≤ c ∧ c ≤ 57 ∧ c - 48 < b) ∨ (97 ≤ c ∧ c ≤ 102 ∧ c - 87 < b)
noncomputable def dval (c : Nat) : Nat := if c ≤ 57 then c - 48 else c - 87
theorem IsDig.digit {b c : Nat} (h : IsDig b c) : NumText.digit? c = some (dval c) ∧ dval c < b ∧ c ≠ 95 ∧ NumText.blank c = false ∧ c ≠ 45 ∧ c ≠ 43 := by
  unfold dval NumText.digit? NumText.blank
  rcases h with ⟨h1, h2, h3⟩ | ⟨h1, h2, h3⟩
  · refine ⟨?_, ?_, by omega, ?_, by omega, by omega⟩
    · simp [h1, h2]
    · simp [h2]; exact h3
    · have e1 : (c == 32) = false := by simp; omega
      have e2 : decide (c ≤ 13) = false := by simp; omega
      simp [e1, e2]
  · have hn : ¬ c ≤ 57 := by omega
    refine ⟨?_, ?_, by omega, ?_, by omega, by omega⟩
    · have e3 : c ≤ 122 := by omega
      simp [hn, h1, e3]
    · simp [hn]; exact h3
    · have e1 : (c == 32) = false := by simp; omega
      have e2 : decide (c ≤ 13) = false := by simp; omega
      simp [e1, e2]
theorem fold_digs {b : Nat} : ∀ (cs : List Nat) (ds : Array Nat) (f : Bool), (∀ c ∈ cs, IsDig b c) → cs.foldlM (NumText.step b) (ds, f) = some (ds ++ (cs.map dval).toArray, f || !cs.isEmpty)
  | [], ds, f, _ => by simp
  | c :: r, ds, f, h => by
    obtain ⟨h1, h2, h3, _⟩ := (h c (.head _)).digit
    have hs : NumText.step b (ds, f) c = some (ds.push (dval c), true) := by
      unfold NumText.step
      have e : (c == 95) = false := by simp [h3]
      rw [e, h1]
      simp [h2]
    rw [List.foldlM_cons, hs]
    show r.foldlM (NumText.step b) (ds.push (dval c), true) = _
    rw [fold_digs r _ true fun d hd => h d (.tail _ hd)]
    simp
theorem drop_all {p : Nat → Bool} : ∀ {l : List Nat}, (∀ c ∈ l, p c = false) → l.dropWhile p = l
  | [], _ => rfl
  | c :: r, h => by rw [List.dropWhile_cons, h c (.head _)]; rfl
theorem prefix_in {t : List Nat} {p b : Nat} (h : NumText.prefix? t = some p) (hd : ∀ c ∈ t, IsDig b c) (hb : b ≤ 16) : p = 2 ∧ 2 < b := by
  unfold NumText.prefix? at h
  split at h
  · rename_i c r
    have hc := hd c (.tail _ (.head _))
    unfold IsDig at hc
    split at h
    · rename_i hx
      simp only [Bool.or_eq_true, beq_iff_eq] at hx
      omega
    · split at h
      · rename_i hx
        simp only [Bool.or_eq_true, beq_iff_eq] at hx
        omega
      · split at h
        · rename_i hx
          cases h
          simp only [Bool.or_eq_true, beq_iff_eq] at hx
          exact ⟨rfl, by omega⟩
        · cases h
  · cases h
theorem reads_digits {b : Nat} {cs : List Nat} (hb : 2 ≤ b) (hb2 : b ≤ 16) (hne : cs ≠ []) (hd : ∀ c ∈ cs, IsDig b c) (hlen : cs.length ≤ 600) : reads b cs ((cs.foldl (fun acc c => acc * b + dval c) 0 : Nat) : Int) := by
  show (int_private% "readNumeral") 0 b cs = _
  rw [NumText.readNumeral_eq]
  have h1 : cs.dropWhile NumText.blank = cs := drop_all fun c hc => (hd c hc).digit.2.2.2.1
  rw [h1]
  have h2 : NumText.sign cs = (false, cs) := by
    cases cs with
    | nil => exact absurd rfl hne
    | cons c r =>
      have h := (hd c (.head _)).digit
      unfold NumText.sign
      split
      · rename_i e; cases e; exact absurd rfl h.2.2.2.2.1
      · rename_i e; cases e; exact absurd rfl h.2.2.2.2.2
      · rfl
  rw [h2]
  have h3 : NumText.based b cs = (b, false, cs) := by
    unfold NumText.based
    split
    · rename_i p hp
      obtain ⟨rfl, hlt⟩ := prefix_in hp hd hb2
      have e : (b == 0 || b == 2) = false := by
        have e1 : (b == 0) = false := by simp; omega
        have e2 : (b == 2) = false := by simp; omega
        rw [e1, e2]; rfl
      rw [e]; rfl
    · have e1 : (b == 0) = false := by simp; omega
      rw [e1]; rfl
  dsimp only
  rw [h3]
  have h4 : (cs.reverse.dropWhile NumText.blank).reverse = cs := by
    rw [drop_all fun c hc => (hd c (List.mem_reverse.mp hc)).digit.2.2.2.1, List.reverse_reverse]
  dsimp only
  rw [h4]
  have h5 : NumText.digits? b cs = some (cs.map dval).toArray := by
    unfold NumText.digits?
    rw [fold_digs cs #[] false hd]
    cases cs with
    | nil => exact absurd rfl hne
    | cons c r => simp
  rw [h5]
  unfold NumText.judge
  have e6 : (b == 10 && decide ((cs.map dval).toArray.size > 6000)) = false := by
    have e : decide ((cs.map dval).toArray.size > 6000) = false := decide_eq_false (by simp only [List.size_toArray, List.length_map]; omega)
    rw [e, Bool.and_false]
  have e7 : (!([2, 4, 8, 16, 32] : List Nat).contains b && (0 : Nat) != 0 && decide ((cs.map dval).toArray.size > 0)) = false := by simp
  dsimp only
  rw [e7, e6]
  simp [List.foldl_map]
end Mine
end
section
open PySem PySem.W PyProof.Rows PySem.Calls PySem.Builtin.Str PySem.StrLaws
set_option maxRecDepth 100000
set_option maxHeartbeats 800000
namespace Mine
/-- a text of these signs -/
noncomputable abbrev tx (l : List Nat) : Str := ⟨l.toArray⟩
theorem tx_len (l : List Nat) : (tx l).length = l.length := by show l.toArray.size = _; simp
theorem starts_tx (l p : List Nat) : Txt.startswith (tx l) (tx p) = (l.take p.length == p) := by
  unfold Txt.startswith
  rw [StrLaws.subAt_eq, tx_len, tx_len]
  simp only [Nat.zero_add, List.drop_zero, Bool.and_eq_decide]
  by_cases h : l.take p.length = p
  · have : p.length ≤ l.length := by have := congrArg List.length h; simp at this; omega
    simp [h, this]
  · have e : (l.take p.length == p) = false := by simpa using h
    simp [e]
theorem ends_one (l : List Nat) (c d : Nat) : Txt.endswith (tx (l ++ [c])) (tx [d]) = (c == d) := by
  unfold Txt.endswith
  rw [StrLaws.subAt_eq, tx_len, tx_len]
  simp
theorem ends_nil (d : Nat) : Txt.endswith (tx []) (tx [d]) = false := by
  unfold Txt.endswith
  rw [tx_len, tx_len]
  simp
theorem slice_from {l : List Nat} {n : Nat} (h : n ≤ l.length) : Txt.slice (tx l) (some (n : Int)) none = tx (l.drop n) := by
  show StrLaws.sliceText (tx l) (some (n : Int)) none = _
  rw [sliceText_from ⟨by omega, by simp; omega⟩]
  simp
  exact List.take_of_length_le (by simp)
theorem slice_init (l : List Nat) (c : Nat) : Txt.slice (tx (l ++ [c])) none (some (-1)) = tx l := by
  show StrLaws.sliceText (tx (l ++ [c])) none (some (-1)) = _
  rw [sliceText_to_neg (by omega) (by rw [tx_len]; simp; omega)]
  rw [tx_len]
  have e : ((-1 : Int) + ((l ++ [c]).length : Nat) - 0).toNat = l.length := by simp; omega
  rw [e]
  simp
theorem lower_tx {l : List Nat} (h : ∀ c ∈ l, c < 128) : Txt.lower (tx l) = tx (l.map lo1) := by
  rw [lower_ascii (by simpa using h)]
  simp
end Mine
end
section
open PySem PySem.W PyProof.Rows PySem.Calls
namespace Mine
local macro_rules | `(tactic| k_mem) => `(tactic| assumption)
local macro_rules | `(tactic| k_room) => `(tactic| ktr_room)
local macro_rules | `(tactic| k_units) => `(tactic| ktr_units)
set_option hygiene false in
local macro_rules | `(tactic| k_lt $h:ident) => `(tactic| ((first | (have hChk9 := hRest9; clear hChk9) | (have hRest9 := fun p (hp : p ∈ rest) => $h p (by simp only [List.mem_cons, hp, or_true])) | skip); replace $h := allLt_of $h; (try simp only [AllLt, and_true] at $h:ident)))
set_option hygiene false in
local macro_rules | `(tactic| k_all) => `(tactic| exact fun p hp => ne_of_lt9 (hRest9 p hp) (by (try dsimp only); first | exact Nat.le_refl _ | exact Nat.le_of_lt (by assumption) | exact Nat.le_of_lt (Nat.lt_trans (by assumption) (by assumption)) | exact Nat.le_of_lt (Nat.lt_trans (Nat.lt_trans (by assumption) (by assumption)) (by assumption)) | omega))
section
open PySem PySem.W PyProof.Rows PySem.Calls
set_option maxRecDepth 100000
set_option maxHeartbeats 8000000

noncomputable abbrev view := topProg
noncomputable abbrev loose0 : List Str := looseW hd.view_39 [Str.ofString "Token", Str.ofString "SourceLocation", Str.ofString "CToken", Str.ofString "CompilerError", Str.ofString "CLexer"]
noncomputable abbrev loose : List Str := loose0 ++ (recsOf hd.view_39).map (·.name) ++ (litsOf hd.view_39).map (·.1) ++ (clssOf hd.view_39 loose0).map (·.name)

/-- a call of the text's def at f that comes back: what it gives and the ledger behind it -/
noncomputable def CallOk (w : World) (mean : ExcName → Option Value) (mg mb : Str → Option Value) (f : Addr) (args : List Value) (led : List (Addr × Obj)) (Post : Value → List (Addr × Obj) → Prop) (D U : Nat) : Prop :=
  ∀ (dp un : Nat) (gd : Option (List Code)) (cn : Str) (csn : List (Str × NameKind)) (csg csc : Bool) (csm : List (Str × Const)) (a : Addr) (ccd : Value) (cl : List (Str × Addr)) (outer : List Env) (A₀ : Around) (base h₀ : Heap) (L : Addr) (m : Str → Option Value) (s : Shared) (Q E : Value → Shared → Prop),
    Below A₀ base outer h₀ → Fr h₀ L s.heap m → (hd.heap_39 w.params).In h₀ → News h₀ L s.heap led → Top view loose mean mg mb h₀ → dp + D < recursionLimit → un + U < cLine →
    (∀ v led' h' tk', Post v led' → Fr h₀ L h' m → News h₀ L h' led' → Q v { s with heap := h', toks := tk' }) →
    wpAny (model PySem.Challenge.pw_rk0008_01 w) (ktrTop dp un gd cn ⟨ScopeKind.function, csn, csg, csc, csm⟩ L a ccd cl outer) (call (.ref f) args) Q E s

/-- the lexer's own dict -/
noncomputable abbrev lxDict (h1 h2 h3 h4 h5 : Int) (t1 t2 t3 t4 t5 : Tok) (tb pb ct it : Addr) (co : Value) (n : Nat) : Obj := dictOf [⟨h1, .str (Str.ofString "token_buffer") t1, .ref tb⟩, ⟨h2, .str (Str.ofString "pushed_back") t2, .ref pb⟩, ⟨h3, .str (Str.ofString "current_text") t3, .ref ct⟩, ⟨h4, .str (Str.ofString "coptions") t4, co⟩, ⟨h5, .str (Str.ofString "characters") t5, .ref it⟩] n

theorem next_pb {w : World} {mean : ExcName → Option Value} {mg mb : Str → Option Value} {x dx tb pb ct it : Addr} {h1 h2 h3 h4 h5 : Int} {t1 t2 t3 t4 t5 : Tok} {co : Value} {ndx ntb npb nct : Nat} {tbs cts : List Value} {oit : Obj} {rest : List (Addr × Obj)}
    (o1 : @LT.lt Nat _ dx x) (o2 : @LT.lt Nat _ x tb) (o3 : @LT.lt Nat _ tb pb) (o4 : @LT.lt Nat _ pb ct) (o5 : @LT.lt Nat _ ct it) (hoff : OwnOff rest [tb, pb, ct, it]) (hlen : cts.length ≤ 1000) {c dc : Addr} {oc : Obj} (hc : (c, instObj 183 dc) ∈ rest) (hdc : (dc, oc) ∈ rest) :
    CallOk w mean mg mb 216 [.ref x] ((x, instObj 390 dx) :: (dx, lxDict h1 h2 h3 h4 h5 t1 t2 t3 t4 t5 tb pb ct it co ndx) :: (tb, PySem.W.listOf tbs.toArray ntb) :: (pb, PySem.W.listOf [Value.ref c].toArray npb) :: (ct, PySem.W.listOf cts.toArray nct) :: (it, oit) :: rest)
      (fun v l => v = .ref c ∧ l = (x, instObj 390 dx) :: (dx, lxDict h1 h2 h3 h4 h5 t1 t2 t3 t4 t5 tb pb ct it co ndx) :: (tb, PySem.W.listOf tbs.toArray ntb) :: (pb, PySem.W.listOf ([] : List Value).toArray (npb + 1)) :: (ct, PySem.W.listOf (cts ++ [Value.ref c]).toArray (nct + 1)) :: (it, oit) :: rest) 4 40 := by
  intro dp un gd cn csn csg csc csm a ccd cl9 outer A₀ base h₀ L m s Q E B F X N T hd hu hret
  refine wpAny_call ?_
  k_dflt k_enter
  (repeat' (first | ((k_here; (with_reducible show wpAny _ _ (truthy (Value.ref _)) _ _ _); k_dflt (refine' truthyL ?N ?m ?z ?_; (case N => k_asm); (case m => k_mem); (case z => (try simp only [List.size_toArray, List.length_map, List.length_append, List.length_cons, List.length_nil]); omega); k_whole); (try simp only [List.isEmpty_toArray, List.isEmpty_cons, List.isEmpty_nil, Bool.not_false, Bool.not_true]))) | (k_unfold; (try dsimp only)) | (k_end; kc_close) | walk1 | (dsimp only; walk1) | (leave1; walk_say "STEP leave1"; (try dsimp only)) | fail "no step"))
  all_goals (rename News _ _ _ _ => kN9; (try simp only [List.push_toArray] at kN9); exact hret _ _ _ _ ⟨rfl, rfl⟩ (by assumption) kN9)

theorem next_live {w : World} {mean : ExcName → Option Value} {mg mb : Str → Option Value} {x dx tb pb ct it : Addr} {h1 h2 h3 h4 h5 : Int} {t1 t2 t3 t4 t5 : Tok} {co : Value} {ndx ntb npb nct : Nat} {tbs cts : List Value} {oit : Obj} {rest : List (Addr × Obj)}
    (o1 : @LT.lt Nat _ dx x) (o2 : @LT.lt Nat _ x tb) (o3 : @LT.lt Nat _ tb pb) (o4 : @LT.lt Nat _ pb ct) (o5 : @LT.lt Nat _ ct it) (hoff : OwnOff rest [tb, pb, ct, it]) (hlen : cts.length ≤ 1000) {c dc : Addr} {oc : Obj} (hc : (c, instObj 183 dc) ∈ rest) (hdc : (dc, oc) ∈ rest) {cl : Addr} {i : Nat} {cs : List Value} {ncl : Nat} (hv : LiveIt oit cl i) (hcl : (cl, PySem.W.listOf cs.toArray ncl) ∈ rest) (hi : cs.toArray[i]? = some (.ref c)) :
    CallOk w mean mg mb 216 [.ref x] ((x, instObj 390 dx) :: (dx, lxDict h1 h2 h3 h4 h5 t1 t2 t3 t4 t5 tb pb ct it co ndx) :: (tb, PySem.W.listOf tbs.toArray ntb) :: (pb, PySem.W.listOf ([] : List Value).toArray npb) :: (ct, PySem.W.listOf cts.toArray nct) :: (it, oit) :: rest)
      (fun v l => v = .ref c ∧ ∃ o, LiveIt o cl (i + 1) ∧ l = (x, instObj 390 dx) :: (dx, lxDict h1 h2 h3 h4 h5 t1 t2 t3 t4 t5 tb pb ct it co ndx) :: (tb, PySem.W.listOf tbs.toArray ntb) :: (pb, PySem.W.listOf ([] : List Value).toArray npb) :: (ct, PySem.W.listOf (cts ++ [Value.ref c]).toArray (nct + 1)) :: (it, o) :: rest) 4 40 := by
  intro dp un gd cn csn csg csc csm a ccd cl9 outer A₀ base h₀ L m s Q E B F X N T hd hu hret
  refine wpAny_call ?_
  k_dflt k_enter
  (repeat' (first | ((k_here; (with_reducible show wpAny _ _ (call (Value.builtin "next") [Value.ref _, _]) _ _ _); k_dflt (first | (refine' next2_item ?F ?N ?v ?U ?l ?x ?_; (case F => k_asm); (case N => k_asm); (case v => assumption); (case U => k_updF); (case l => k_mem); (case x => assumption); k_whole; intro h' o' F' N' hv'; (try dsimp only at N')) | (refine' next2_end rfl ?F ?N ?v ?U ?l ?x ?_; (case F => k_asm); (case N => k_asm); (case v => assumption); (case U => k_updF); (case l => k_mem); (case x => assumption); k_whole; intro h' o' F' N' hv'; (try dsimp only at N')) | (refine' next2_dead rfl ?F ?N ?v ?m ?_; (case F => k_asm); (case N => k_asm); (case v => assumption); (case m => k_mem); k_whole; intro h' F' N')))) | ((k_here; (with_reducible show wpAny _ _ (truthy (Value.ref _)) _ _ _); k_dflt (refine' truthyL ?N ?m ?z ?_; (case N => k_asm); (case m => k_mem); (case z => (try simp only [List.size_toArray, List.length_map, List.length_append, List.length_cons, List.length_nil]); omega); k_whole); (try simp only [List.isEmpty_toArray, List.isEmpty_cons, List.isEmpty_nil, Bool.not_false, Bool.not_true]))) | (k_unfold; (try dsimp only)) | (k_end; kc_close) | walk1 | (dsimp only; walk1) | (leave1; walk_say "STEP leave1"; (try dsimp only)) | fail "no step"))
  all_goals (rename News _ _ _ _ => kN9; (try simp only [List.push_toArray] at kN9); exact hret _ _ _ _ ⟨rfl, _, by assumption, rfl⟩ (by assumption) kN9)

theorem next_over {w : World} {mean : ExcName → Option Value} {mg mb : Str → Option Value} {x dx tb pb ct it : Addr} {h1 h2 h3 h4 h5 : Int} {t1 t2 t3 t4 t5 : Tok} {co : Value} {ndx ntb npb nct : Nat} {tbs cts : List Value} {oit : Obj} {rest : List (Addr × Obj)}
    (o1 : @LT.lt Nat _ dx x) (o2 : @LT.lt Nat _ x tb) (o3 : @LT.lt Nat _ tb pb) (o4 : @LT.lt Nat _ pb ct) (o5 : @LT.lt Nat _ ct it) (hoff : OwnOff rest [tb, pb, ct, it]) (hlen : cts.length ≤ 1000) {cl : Addr} {i : Nat} {cs : List Value} {ncl : Nat} (hv : LiveIt oit cl i) (hcl : (cl, PySem.W.listOf cs.toArray ncl) ∈ rest) (hi : cs.toArray[i]? = none) :
    CallOk w mean mg mb 216 [.ref x] ((x, instObj 390 dx) :: (dx, lxDict h1 h2 h3 h4 h5 t1 t2 t3 t4 t5 tb pb ct it co ndx) :: (tb, PySem.W.listOf tbs.toArray ntb) :: (pb, PySem.W.listOf ([] : List Value).toArray npb) :: (ct, PySem.W.listOf cts.toArray nct) :: (it, oit) :: rest)
      (fun v l => v = .none ∧ ∃ o, DeadIt o ∧ l = (x, instObj 390 dx) :: (dx, lxDict h1 h2 h3 h4 h5 t1 t2 t3 t4 t5 tb pb ct it co ndx) :: (tb, PySem.W.listOf tbs.toArray ntb) :: (pb, PySem.W.listOf ([] : List Value).toArray npb) :: (ct, PySem.W.listOf cts.toArray nct) :: (it, o) :: rest) 4 40 := by
  intro dp un gd cn csn csg csc csm a ccd cl9 outer A₀ base h₀ L m s Q E B F X N T hd hu hret
  refine wpAny_call ?_
  k_dflt k_enter
  (repeat' (first | ((k_here; (with_reducible show wpAny _ _ (call (Value.builtin "next") [Value.ref _, _]) _ _ _); k_dflt (first | (refine' next2_item ?F ?N ?v ?U ?l ?x ?_; (case F => k_asm); (case N => k_asm); (case v => assumption); (case U => k_updF); (case l => k_mem); (case x => assumption); k_whole; intro h' o' F' N' hv'; (try dsimp only at N')) | (refine' next2_end rfl ?F ?N ?v ?U ?l ?x ?_; (case F => k_asm); (case N => k_asm); (case v => assumption); (case U => k_updF); (case l => k_mem); (case x => assumption); k_whole; intro h' o' F' N' hv'; (try dsimp only at N')) | (refine' next2_dead rfl ?F ?N ?v ?m ?_; (case F => k_asm); (case N => k_asm); (case v => assumption); (case m => k_mem); k_whole; intro h' F' N')))) | ((k_here; (with_reducible show wpAny _ _ (truthy (Value.ref _)) _ _ _); k_dflt (refine' truthyL ?N ?m ?z ?_; (case N => k_asm); (case m => k_mem); (case z => (try simp only [List.size_toArray, List.length_map, List.length_append, List.length_cons, List.length_nil]); omega); k_whole); (try simp only [List.isEmpty_toArray, List.isEmpty_cons, List.isEmpty_nil, Bool.not_false, Bool.not_true]))) | (k_unfold; (try dsimp only)) | (k_end; kc_close) | walk1 | (dsimp only; walk1) | (leave1; walk_say "STEP leave1"; (try dsimp only)) | fail "no step"))
  all_goals (rename News _ _ _ _ => kN9; (try simp only [List.push_toArray] at kN9); exact hret _ _ _ _ ⟨rfl, _, by assumption, rfl⟩ (by assumption) kN9)

theorem next_gone {w : World} {mean : ExcName → Option Value} {mg mb : Str → Option Value} {x dx tb pb ct it : Addr} {h1 h2 h3 h4 h5 : Int} {t1 t2 t3 t4 t5 : Tok} {co : Value} {ndx ntb npb nct : Nat} {tbs cts : List Value} {oit : Obj} {rest : List (Addr × Obj)}
    (o1 : @LT.lt Nat _ dx x) (o2 : @LT.lt Nat _ x tb) (o3 : @LT.lt Nat _ tb pb) (o4 : @LT.lt Nat _ pb ct) (o5 : @LT.lt Nat _ ct it) (hoff : OwnOff rest [tb, pb, ct, it]) (hlen : cts.length ≤ 1000) (hv : DeadIt oit) :
    CallOk w mean mg mb 216 [.ref x] ((x, instObj 390 dx) :: (dx, lxDict h1 h2 h3 h4 h5 t1 t2 t3 t4 t5 tb pb ct it co ndx) :: (tb, PySem.W.listOf tbs.toArray ntb) :: (pb, PySem.W.listOf ([] : List Value).toArray npb) :: (ct, PySem.W.listOf cts.toArray nct) :: (it, oit) :: rest)
      (fun v l => v = .none ∧ l = (x, instObj 390 dx) :: (dx, lxDict h1 h2 h3 h4 h5 t1 t2 t3 t4 t5 tb pb ct it co ndx) :: (tb, PySem.W.listOf tbs.toArray ntb) :: (pb, PySem.W.listOf ([] : List Value).toArray npb) :: (ct, PySem.W.listOf cts.toArray nct) :: (it, oit) :: rest) 4 40 := by
  intro dp un gd cn csn csg csc csm a ccd cl9 outer A₀ base h₀ L m s Q E B F X N T hd hu hret
  refine wpAny_call ?_
  k_dflt k_enter
  (repeat' (first | ((k_here; (with_reducible show wpAny _ _ (call (Value.builtin "next") [Value.ref _, _]) _ _ _); k_dflt (first | (refine' next2_item ?F ?N ?v ?U ?l ?x ?_; (case F => k_asm); (case N => k_asm); (case v => assumption); (case U => k_updF); (case l => k_mem); (case x => assumption); k_whole; intro h' o' F' N' hv'; (try dsimp only at N')) | (refine' next2_end rfl ?F ?N ?v ?U ?l ?x ?_; (case F => k_asm); (case N => k_asm); (case v => assumption); (case U => k_updF); (case l => k_mem); (case x => assumption); k_whole; intro h' o' F' N' hv'; (try dsimp only at N')) | (refine' next2_dead rfl ?F ?N ?v ?m ?_; (case F => k_asm); (case N => k_asm); (case v => assumption); (case m => k_mem); k_whole; intro h' F' N')))) | ((k_here; (with_reducible show wpAny _ _ (truthy (Value.ref _)) _ _ _); k_dflt (refine' truthyL ?N ?m ?z ?_; (case N => k_asm); (case m => k_mem); (case z => (try simp only [List.size_toArray, List.length_map, List.length_append, List.length_cons, List.length_nil]); omega); k_whole); (try simp only [List.isEmpty_toArray, List.isEmpty_cons, List.isEmpty_nil, Bool.not_false, Bool.not_true]))) | (k_unfold; (try dsimp only)) | (k_end; kc_close) | walk1 | (dsimp only; walk1) | (leave1; walk_say "STEP leave1"; (try dsimp only)) | fail "no step"))
  all_goals (rename News _ _ _ _ => kN9; (try simp only [List.push_toArray] at kN9); exact hret _ _ _ _ ⟨rfl, rfl⟩ (by assumption) kN9)

theorem backup_some {w : World} {mean : ExcName → Option Value} {mg mb : Str → Option Value} {x dx tb pb ct it : Addr} {h1 h2 h3 h4 h5 : Int} {t1 t2 t3 t4 t5 : Tok} {co : Value} {ndx ntb npb nct : Nat} {tbs cts : List Value} {oit : Obj} {rest : List (Addr × Obj)}
    (o1 : @LT.lt Nat _ dx x) (o2 : @LT.lt Nat _ x tb) (o3 : @LT.lt Nat _ tb pb) (o4 : @LT.lt Nat _ pb ct) (o5 : @LT.lt Nat _ ct it) (hoff : OwnOff rest [tb, pb, ct, it]) (hlen : cts.length ≤ 1000) {c dc : Addr} {oc : Obj} (hc : (c, instObj 183 dc) ∈ rest) (hdc : (dc, oc) ∈ rest) :
    CallOk w mean mg mb 223 [.ref x, .ref c] ((x, instObj 390 dx) :: (dx, lxDict h1 h2 h3 h4 h5 t1 t2 t3 t4 t5 tb pb ct it co ndx) :: (tb, PySem.W.listOf tbs.toArray ntb) :: (pb, PySem.W.listOf ([] : List Value).toArray npb) :: (ct, PySem.W.listOf (cts ++ [Value.ref c]).toArray nct) :: (it, oit) :: rest)
      (fun v l => v = .none ∧ l = (x, instObj 390 dx) :: (dx, lxDict h1 h2 h3 h4 h5 t1 t2 t3 t4 t5 tb pb ct it co ndx) :: (tb, PySem.W.listOf tbs.toArray ntb) :: (pb, PySem.W.listOf [Value.ref c].toArray (npb + 1)) :: (ct, PySem.W.listOf cts.toArray (nct + 1)) :: (it, oit) :: rest) 4 40 := by
  intro dp un gd cn csn csg csc csm a ccd cl9 outer A₀ base h₀ L m s Q E B F X N T hd hu hret
  refine wpAny_call ?_
  k_dflt k_enter
  (repeat' (first | ((k_here; (with_reducible show wpAny _ _ (call (Value.builtin "list.insert") _) _ _ _); k_dflt (refine' insert0 ?F ?N ?i ?U ?z ?_; (case i => rfl); (case F => k_asm); (case N => k_asm); (case U => k_upd); (case z => (try simp only [List.length_cons, List.length_nil]); (first | decide | omega)); k_whole; intro h' F' N'))) | ((k_here; (with_reducible show wpAny _ _ (call (Value.builtin "list.pop") [Value.ref _, Value.int _ _]) _ _ _); k_dflt (refine' pop_last ?F ?N ?i ?U ?z ?_; (case i => rfl); (case F => k_asm); (case N => k_asm); (case U => k_upd); (case z => (first | decide | omega)); k_whole; intro h' F' N'))) | ((k_here; (with_reducible show wpAny _ _ (getMethod (Value.ref _) (PySem.Str.ofString "clear") _) _ _ _); k_dflt (refine' methodL ?N ?m PySem.F.slot_list_clear PySem.F.type_list_clear ?_; (case N => k_asm); (case m => k_mem)))) | ((k_here; (with_reducible show wpAny _ _ (getMethod (Value.ref _) (PySem.Str.ofString "insert") _) _ _ _); k_dflt (refine' methodL ?N ?m PySem.F.slot_list_insert PySem.F.type_list_insert ?_; (case N => k_asm); (case m => k_mem)))) | (k_unfold; (try dsimp only)) | (k_end; kc_close) | walk1 | (dsimp only; walk1) | (leave1; walk_say "STEP leave1"; (try dsimp only)) | fail "no step"))
  all_goals (rename News _ _ _ _ => kN9; (try simp only [List.push_toArray] at kN9); exact hret _ _ _ _ ⟨rfl, rfl⟩ (by assumption) kN9)

theorem backup_none {w : World} {mean : ExcName → Option Value} {mg mb : Str → Option Value} {x dx tb pb ct it : Addr} {h1 h2 h3 h4 h5 : Int} {t1 t2 t3 t4 t5 : Tok} {co : Value} {ndx ntb npb nct : Nat} {tbs cts : List Value} {oit : Obj} {rest : List (Addr × Obj)}
    (o1 : @LT.lt Nat _ dx x) (o2 : @LT.lt Nat _ x tb) (o3 : @LT.lt Nat _ tb pb) (o4 : @LT.lt Nat _ pb ct) (o5 : @LT.lt Nat _ ct it) (hoff : OwnOff rest [tb, pb, ct, it]) (hlen : cts.length ≤ 1000)  :
    CallOk w mean mg mb 223 [.ref x, .none] ((x, instObj 390 dx) :: (dx, lxDict h1 h2 h3 h4 h5 t1 t2 t3 t4 t5 tb pb ct it co ndx) :: (tb, PySem.W.listOf tbs.toArray ntb) :: (pb, PySem.W.listOf ([] : List Value).toArray npb) :: (ct, PySem.W.listOf cts.toArray nct) :: (it, oit) :: rest)
      (fun v l => v = .none ∧ l = (x, instObj 390 dx) :: (dx, lxDict h1 h2 h3 h4 h5 t1 t2 t3 t4 t5 tb pb ct it co ndx) :: (tb, PySem.W.listOf tbs.toArray ntb) :: (pb, PySem.W.listOf ([] : List Value).toArray npb) :: (ct, PySem.W.listOf cts.toArray nct) :: (it, oit) :: rest) 4 40 := by
  intro dp un gd cn csn csg csc csm a ccd cl9 outer A₀ base h₀ L m s Q E B F X N T hd hu hret
  refine wpAny_call ?_
  k_dflt k_enter
  k_steps
  all_goals (rename News _ _ _ _ => kN9; (try simp only [List.push_toArray] at kN9); exact hret _ _ _ _ ⟨rfl, rfl⟩ (by assumption) kN9)
end
section
open PySem PySem.W PyProof.Rows PySem.Calls
set_option maxRecDepth 100000
set_option maxHeartbeats 8000000

theorem CallOk.use {w : World} {mean : ExcName → Option Value} {mg mb : Str → Option Value} {f : Addr} {args : List Value} {led : List (Addr × Obj)} {Post : Value → List (Addr × Obj) → Prop} {D U : Nat}
    {dp un : Nat} {gd : Option (List Code)} {cn : Str} {csn : List (Str × NameKind)} {csg csc : Bool} {csm : List (Str × Const)} {a : Addr} {ccd : Value} {cl : List (Str × Addr)} {outer : List Env} {A₀ : Around} {base h₀ : Heap} {L : Addr} {m : Str → Option Value} {s : Shared} {Q E : Value → Shared → Prop}
    (C : CallOk w mean mg mb f args led Post D U) (B : Below A₀ base outer h₀) (F : Fr h₀ L s.heap m) (X : (hd.heap_39 w.params).In h₀) (N : News h₀ L s.heap led) (T : Top view loose mean mg mb h₀) (hd : dp + D < recursionLimit) (hu : un + U < cLine)
    (ret : ∀ v led' h' tk', Post v led' → Fr h₀ L h' m → News h₀ L h' led' → Q v { s with heap := h', toks := tk' }) :
    wpAny (model PySem.Challenge.pw_rk0008_01 w) (ktrTop dp un gd cn ⟨ScopeKind.function, csn, csg, csc, csm⟩ L a ccd cl outer) (call (.ref f) args) Q E s := C _ _ _ _ _ _ _ _ _ _ _ _ _ _ _ _ _ _ _ _ B F X N T hd hu ret
theorem CallOk.mono {w : World} {mean : ExcName → Option Value} {mg mb : Str → Option Value} {f : Addr} {args : List Value} {led : List (Addr × Obj)} {Post Post' : Value → List (Addr × Obj) → Prop} {D U : Nat}
    (C : CallOk w mean mg mb f args led Post D U) (h : ∀ v l, Post v l → Post' v l) : CallOk w mean mg mb f args led Post' D U :=
  fun _ _ _ _ _ _ _ _ _ _ _ _ _ _ _ _ _ _ _ _ B F X N T hd hu ret => C _ _ _ _ _ _ _ _ _ _ _ _ _ _ _ _ _ _ _ _ B F X N T hd hu fun v l h' tk' p => ret v l h' tk' (h v l p)


theorem accept_pb {w : World} {mean : ExcName → Option Value} {mg mb : Str → Option Value} {x dx tb pb ct it : Addr} {h1 h2 h3 h4 h5 : Int} {t1 t2 t3 t4 t5 : Tok} {co : Value} {ndx ntb npb nct : Nat} {tbs cts : List Value} {oit : Obj} {rest : List (Addr × Obj)}
    (o1 : @LT.lt Nat _ dx x) (o2 : @LT.lt Nat _ x tb) (o3 : @LT.lt Nat _ tb pb) (o4 : @LT.lt Nat _ pb ct) (o5 : @LT.lt Nat _ ct it) (hoff : OwnOff rest [tb, pb, ct, it]) (hlen : cts.length ≤ 1000) {c dc : Addr} {ch1 ch2 : Int} {ck1 ck2 ctk : Tok} {sg : Nat} {lo : Value} {nc : Nat} (hc : (c, instObj 183 dc) ∈ rest) (hdc : (dc, dictOf [⟨ch1, .str (Str.ofString "char") ck1, .str ⟨#[sg]⟩ ctk⟩, ⟨ch2, .str (Str.ofString "loc") ck2, lo⟩] nc) ∈ rest) {vs : Str} {vt : Tok} :
    CallOk w mean mg mb 244 [.ref x, .str vs vt] ((x, instObj 390 dx) :: (dx, lxDict h1 h2 h3 h4 h5 t1 t2 t3 t4 t5 tb pb ct it co ndx) :: (tb, PySem.W.listOf tbs.toArray ntb) :: (pb, PySem.W.listOf [Value.ref c].toArray npb) :: (ct, PySem.W.listOf cts.toArray nct) :: (it, oit) :: rest)
      (fun v l => (v = .bool true ∧ decide (sg ∈ vs.cps.toList) = true ∧ l = (x, instObj 390 dx) :: (dx, lxDict h1 h2 h3 h4 h5 t1 t2 t3 t4 t5 tb pb ct it co ndx) :: (tb, PySem.W.listOf tbs.toArray ntb) :: (pb, PySem.W.listOf ([] : List Value).toArray (npb + 1)) :: (ct, PySem.W.listOf (cts ++ [Value.ref c]).toArray (nct + 1)) :: (it, oit) :: rest) ∨ (v = .bool false ∧ decide (sg ∈ vs.cps.toList) = false ∧ l = (x, instObj 390 dx) :: (dx, lxDict h1 h2 h3 h4 h5 t1 t2 t3 t4 t5 tb pb ct it co ndx) :: (tb, PySem.W.listOf tbs.toArray ntb) :: (pb, PySem.W.listOf [Value.ref c].toArray (npb + 1 + 1)) :: (ct, PySem.W.listOf cts.toArray (nct + 1 + 1)) :: (it, oit) :: rest)) 6 60 := by
  intro dp un gd cn csn csg csc csm a ccd cl9 outer A₀ base h₀ L m s Q E B F X N T hd hu hret
  refine wpAny_call ?_
  k_dflt k_enter
  (repeat' (first | ((k_here; (with_reducible show wpAny _ _ (call (Value.ref _) _) _ _ _); k_dflt (refine' CallOk.use (backup_some ?a0 ?a1 ?a2 ?a3 ?a4 ?a5 ?a6 ?a7 ?a8) ?B ?F ?X ?N ?T ?d ?u ?_; (case N => k_asm); (case F => k_asm); (case B => k_asm); (case X => k_asm); (case T => k_asm); (case a0 => assumption); (case a1 => assumption); (case a2 => assumption); (case a3 => assumption); (case a4 => assumption); (case a5 => assumption); (case a7 => assumption); (case a8 => assumption); (case a6 => (try simp only [List.length_append, List.length_cons, List.length_nil]); omega); (case d => ktr_room); (case u => ktr_units); k_whole); intro v9 l9 h9 tk9 P9 F9 N9; obtain ⟨e9, e9b⟩ := P9; subst e9; subst e9b; (try dsimp only); (try k_sweep); (try k_fold))) | ((k_here; (with_reducible show wpAny _ _ (call (Value.ref _) _) _ _ _); k_dflt (refine' CallOk.use (next_pb ?a0 ?a1 ?a2 ?a3 ?a4 ?a5 ?a6 ?a7 ?a8) ?B ?F ?X ?N ?T ?d ?u ?_; (case N => k_asm); (case F => k_asm); (case B => k_asm); (case X => k_asm); (case T => k_asm); (case a0 => assumption); (case a1 => assumption); (case a2 => assumption); (case a3 => assumption); (case a4 => assumption); (case a5 => assumption); (case a7 => assumption); (case a8 => assumption); (case a6 => (try simp only [List.length_append, List.length_cons, List.length_nil]); omega); (case d => ktr_room); (case u => ktr_units); k_whole); intro v9 l9 h9 tk9 P9 F9 N9; obtain ⟨e9, e9b⟩ := P9; subst e9; subst e9b; (try dsimp only); (try k_sweep); (try k_fold))) | (k_unfold; (try dsimp only)) | (k_end; kc_close) | walk1 | (dsimp only; walk1) | (leave1; walk_say "STEP leave1"; (try dsimp only)) | fail "no step"))
  all_goals (rename News _ _ _ _ => kN9; (try simp only [List.push_toArray] at kN9); first
    | exact hret _ _ _ _ (.inl ⟨rfl, by rw [← PySem.StrLaws.found_one, Bool.not_eq_true']; assumption, rfl⟩) (by assumption) kN9
    | exact hret _ _ _ _ (.inr ⟨rfl, by rw [← PySem.StrLaws.found_one, Bool.not_eq_false']; assumption, rfl⟩) (by assumption) kN9)

theorem accept_live {w : World} {mean : ExcName → Option Value} {mg mb : Str → Option Value} {x dx tb pb ct it : Addr} {h1 h2 h3 h4 h5 : Int} {t1 t2 t3 t4 t5 : Tok} {co : Value} {ndx ntb npb nct : Nat} {tbs cts : List Value} {oit : Obj} {rest : List (Addr × Obj)}
    (o1 : @LT.lt Nat _ dx x) (o2 : @LT.lt Nat _ x tb) (o3 : @LT.lt Nat _ tb pb) (o4 : @LT.lt Nat _ pb ct) (o5 : @LT.lt Nat _ ct it) (hoff : OwnOff rest [tb, pb, ct, it]) (hlen : cts.length ≤ 1000) {c dc : Addr} {ch1 ch2 : Int} {ck1 ck2 ctk : Tok} {sg : Nat} {lo : Value} {nc : Nat} (hc : (c, instObj 183 dc) ∈ rest) (hdc : (dc, dictOf [⟨ch1, .str (Str.ofString "char") ck1, .str ⟨#[sg]⟩ ctk⟩, ⟨ch2, .str (Str.ofString "loc") ck2, lo⟩] nc) ∈ rest) {cl : Addr} {i : Nat} {cs : List Value} {ncl : Nat} (hv : LiveIt oit cl i) (hcl : (cl, PySem.W.listOf cs.toArray ncl) ∈ rest) (hi : cs.toArray[i]? = some (.ref c)) {vs : Str} {vt : Tok} :
    CallOk w mean mg mb 244 [.ref x, .str vs vt] ((x, instObj 390 dx) :: (dx, lxDict h1 h2 h3 h4 h5 t1 t2 t3 t4 t5 tb pb ct it co ndx) :: (tb, PySem.W.listOf tbs.toArray ntb) :: (pb, PySem.W.listOf ([] : List Value).toArray npb) :: (ct, PySem.W.listOf cts.toArray nct) :: (it, oit) :: rest)
      (fun v l => (v = .bool true ∧ decide (sg ∈ vs.cps.toList) = true ∧ ∃ o, LiveIt o cl (i + 1) ∧ l = (x, instObj 390 dx) :: (dx, lxDict h1 h2 h3 h4 h5 t1 t2 t3 t4 t5 tb pb ct it co ndx) :: (tb, PySem.W.listOf tbs.toArray ntb) :: (pb, PySem.W.listOf ([] : List Value).toArray npb) :: (ct, PySem.W.listOf (cts ++ [Value.ref c]).toArray (nct + 1)) :: (it, o) :: rest) ∨ (v = .bool false ∧ decide (sg ∈ vs.cps.toList) = false ∧ ∃ o, LiveIt o cl (i + 1) ∧ l = (x, instObj 390 dx) :: (dx, lxDict h1 h2 h3 h4 h5 t1 t2 t3 t4 t5 tb pb ct it co ndx) :: (tb, PySem.W.listOf tbs.toArray ntb) :: (pb, PySem.W.listOf [Value.ref c].toArray (npb + 1)) :: (ct, PySem.W.listOf cts.toArray (nct + 1 + 1)) :: (it, o) :: rest)) 6 60 := by
  intro dp un gd cn csn csg csc csm a ccd cl9 outer A₀ base h₀ L m s Q E B F X N T hd hu hret
  refine wpAny_call ?_
  k_dflt k_enter
  (repeat' (first | ((k_here; (with_reducible show wpAny _ _ (call (Value.ref _) _) _ _ _); k_dflt (refine' CallOk.use (backup_some ?a0 ?a1 ?a2 ?a3 ?a4 ?a5 ?a6 ?a7 ?a8) ?B ?F ?X ?N ?T ?d ?u ?_; (case N => k_asm); (case F => k_asm); (case B => k_asm); (case X => k_asm); (case T => k_asm); (case a0 => assumption); (case a1 => assumption); (case a2 => assumption); (case a3 => assumption); (case a4 => assumption); (case a5 => assumption); (case a7 => assumption); (case a8 => assumption); (case a6 => (try simp only [List.length_append, List.length_cons, List.length_nil]); omega); (case d => ktr_room); (case u => ktr_units); k_whole); intro v9 l9 h9 tk9 P9 F9 N9; obtain ⟨e9, e9b⟩ := P9; subst e9; subst e9b; (try dsimp only); (try k_sweep); (try k_fold))) | ((k_here; (with_reducible show wpAny _ _ (call (Value.ref _) _) _ _ _); k_dflt (refine' CallOk.use (next_live ?a0 ?a1 ?a2 ?a3 ?a4 ?a5 ?a6 ?a7 ?a8 ?a9 ?a10 ?a11) ?B ?F ?X ?N ?T ?d ?u ?_; (case N => k_asm); (case F => k_asm); (case B => k_asm); (case X => k_asm); (case T => k_asm); (case a0 => assumption); (case a1 => assumption); (case a2 => assumption); (case a3 => assumption); (case a4 => assumption); (case a5 => assumption); (case a7 => assumption); (case a8 => assumption); (case a9 => assumption); (case a10 => assumption); (case a11 => assumption); (case a6 => (try simp only [List.length_append, List.length_cons, List.length_nil]); omega); (case d => ktr_room); (case u => ktr_units); k_whole); intro v9 l9 h9 tk9 P9 F9 N9; obtain ⟨e9, o9, v9, e9b⟩ := P9; subst e9; subst e9b; (try dsimp only); (try k_sweep); (try k_fold))) | (k_unfold; (try dsimp only)) | (k_end; kc_close) | walk1 | (dsimp only; walk1) | (leave1; walk_say "STEP leave1"; (try dsimp only)) | fail "no step"))
  all_goals (rename News _ _ _ _ => kN9; (try simp only [List.push_toArray] at kN9); first
    | exact hret _ _ _ _ (.inl ⟨rfl, by rw [← PySem.StrLaws.found_one, Bool.not_eq_true']; assumption, ⟨_, by assumption, rfl⟩⟩) (by assumption) kN9
    | exact hret _ _ _ _ (.inr ⟨rfl, by rw [← PySem.StrLaws.found_one, Bool.not_eq_false']; assumption, ⟨_, by assumption, rfl⟩⟩) (by assumption) kN9)

theorem accept_over {w : World} {mean : ExcName → Option Value} {mg mb : Str → Option Value} {x dx tb pb ct it : Addr} {h1 h2 h3 h4 h5 : Int} {t1 t2 t3 t4 t5 : Tok} {co : Value} {ndx ntb npb nct : Nat} {tbs cts : List Value} {oit : Obj} {rest : List (Addr × Obj)}
    (o1 : @LT.lt Nat _ dx x) (o2 : @LT.lt Nat _ x tb) (o3 : @LT.lt Nat _ tb pb) (o4 : @LT.lt Nat _ pb ct) (o5 : @LT.lt Nat _ ct it) (hoff : OwnOff rest [tb, pb, ct, it]) (hlen : cts.length ≤ 1000) {cl : Addr} {i : Nat} {cs : List Value} {ncl : Nat} (hv : LiveIt oit cl i) (hcl : (cl, PySem.W.listOf cs.toArray ncl) ∈ rest) (hi : cs.toArray[i]? = none) {vs : Str} {vt : Tok} :
    CallOk w mean mg mb 244 [.ref x, .str vs vt] ((x, instObj 390 dx) :: (dx, lxDict h1 h2 h3 h4 h5 t1 t2 t3 t4 t5 tb pb ct it co ndx) :: (tb, PySem.W.listOf tbs.toArray ntb) :: (pb, PySem.W.listOf ([] : List Value).toArray npb) :: (ct, PySem.W.listOf cts.toArray nct) :: (it, oit) :: rest)
      (fun v l => v = .bool false ∧ ∃ o, DeadIt o ∧ l = (x, instObj 390 dx) :: (dx, lxDict h1 h2 h3 h4 h5 t1 t2 t3 t4 t5 tb pb ct it co ndx) :: (tb, PySem.W.listOf tbs.toArray ntb) :: (pb, PySem.W.listOf ([] : List Value).toArray npb) :: (ct, PySem.W.listOf cts.toArray nct) :: (it, o) :: rest) 6 60 := by
  intro dp un gd cn csn csg csc csm a ccd cl9 outer A₀ base h₀ L m s Q E B F X N T hd hu hret
  refine wpAny_call ?_
  k_dflt k_enter
  (repeat' (first | ((k_here; (with_reducible show wpAny _ _ (call (Value.ref _) _) _ _ _); k_dflt (refine' CallOk.use (backup_none ?a0 ?a1 ?a2 ?a3 ?a4 ?a5 ?a6) ?B ?F ?X ?N ?T ?d ?u ?_; (case N => k_asm); (case F => k_asm); (case B => k_asm); (case X => k_asm); (case T => k_asm); (case a0 => assumption); (case a1 => assumption); (case a2 => assumption); (case a3 => assumption); (case a4 => assumption); (case a5 => assumption); (case a6 => (try simp only [List.length_append, List.length_cons, List.length_nil]); omega); (case d => ktr_room); (case u => ktr_units); k_whole); intro v9 l9 h9 tk9 P9 F9 N9; obtain ⟨e9, e9b⟩ := P9; subst e9; subst e9b; (try dsimp only); (try k_sweep); (try k_fold))) | ((k_here; (with_reducible show wpAny _ _ (call (Value.ref _) _) _ _ _); k_dflt (refine' CallOk.use (next_over ?a0 ?a1 ?a2 ?a3 ?a4 ?a5 ?a6 ?a7 ?a8 ?a9) ?B ?F ?X ?N ?T ?d ?u ?_; (case N => k_asm); (case F => k_asm); (case B => k_asm); (case X => k_asm); (case T => k_asm); (case a0 => assumption); (case a1 => assumption); (case a2 => assumption); (case a3 => assumption); (case a4 => assumption); (case a5 => assumption); (case a7 => assumption); (case a8 => assumption); (case a9 => assumption); (case a6 => (try simp only [List.length_append, List.length_cons, List.length_nil]); omega); (case d => ktr_room); (case u => ktr_units); k_whole); intro v9 l9 h9 tk9 P9 F9 N9; obtain ⟨e9, o9, v9, e9b⟩ := P9; subst e9; subst e9b; (try dsimp only); (try k_sweep); (try k_fold))) | (k_unfold; (try dsimp only)) | (k_end; kc_close) | walk1 | (dsimp only; walk1) | (leave1; walk_say "STEP leave1"; (try dsimp only)) | fail "no step"))
  all_goals (rename News _ _ _ _ => kN9; (try simp only [List.push_toArray] at kN9); exact hret _ _ _ _ ⟨rfl, _, by assumption, rfl⟩ (by assumption) kN9)

theorem accept_gone {w : World} {mean : ExcName → Option Value} {mg mb : Str → Option Value} {x dx tb pb ct it : Addr} {h1 h2 h3 h4 h5 : Int} {t1 t2 t3 t4 t5 : Tok} {co : Value} {ndx ntb npb nct : Nat} {tbs cts : List Value} {oit : Obj} {rest : List (Addr × Obj)}
    (o1 : @LT.lt Nat _ dx x) (o2 : @LT.lt Nat _ x tb) (o3 : @LT.lt Nat _ tb pb) (o4 : @LT.lt Nat _ pb ct) (o5 : @LT.lt Nat _ ct it) (hoff : OwnOff rest [tb, pb, ct, it]) (hlen : cts.length ≤ 1000) (hv : DeadIt oit) {vs : Str} {vt : Tok} :
    CallOk w mean mg mb 244 [.ref x, .str vs vt] ((x, instObj 390 dx) :: (dx, lxDict h1 h2 h3 h4 h5 t1 t2 t3 t4 t5 tb pb ct it co ndx) :: (tb, PySem.W.listOf tbs.toArray ntb) :: (pb, PySem.W.listOf ([] : List Value).toArray npb) :: (ct, PySem.W.listOf cts.toArray nct) :: (it, oit) :: rest)
      (fun v l => v = .bool false ∧ l = (x, instObj 390 dx) :: (dx, lxDict h1 h2 h3 h4 h5 t1 t2 t3 t4 t5 tb pb ct it co ndx) :: (tb, PySem.W.listOf tbs.toArray ntb) :: (pb, PySem.W.listOf ([] : List Value).toArray npb) :: (ct, PySem.W.listOf cts.toArray nct) :: (it, oit) :: rest) 6 60 := by
  intro dp un gd cn csn csg csc csm a ccd cl9 outer A₀ base h₀ L m s Q E B F X N T hd hu hret
  refine wpAny_call ?_
  k_dflt k_enter
  (repeat' (first | ((k_here; (with_reducible show wpAny _ _ (call (Value.ref _) _) _ _ _); k_dflt (refine' CallOk.use (backup_none ?a0 ?a1 ?a2 ?a3 ?a4 ?a5 ?a6) ?B ?F ?X ?N ?T ?d ?u ?_; (case N => k_asm); (case F => k_asm); (case B => k_asm); (case X => k_asm); (case T => k_asm); (case a0 => assumption); (case a1 => assumption); (case a2 => assumption); (case a3 => assumption); (case a4 => assumption); (case a5 => assumption); (case a6 => (try simp only [List.length_append, List.length_cons, List.length_nil]); omega); (case d => ktr_room); (case u => ktr_units); k_whole); intro v9 l9 h9 tk9 P9 F9 N9; obtain ⟨e9, e9b⟩ := P9; subst e9; subst e9b; (try dsimp only); (try k_sweep); (try k_fold))) | ((k_here; (with_reducible show wpAny _ _ (call (Value.ref _) _) _ _ _); k_dflt (refine' CallOk.use (next_gone ?a0 ?a1 ?a2 ?a3 ?a4 ?a5 ?a6 ?a7) ?B ?F ?X ?N ?T ?d ?u ?_; (case N => k_asm); (case F => k_asm); (case B => k_asm); (case X => k_asm); (case T => k_asm); (case a0 => assumption); (case a1 => assumption); (case a2 => assumption); (case a3 => assumption); (case a4 => assumption); (case a5 => assumption); (case a7 => assumption); (case a6 => (try simp only [List.length_append, List.length_cons, List.length_nil]); omega); (case d => ktr_room); (case u => ktr_units); k_whole); intro v9 l9 h9 tk9 P9 F9 N9; obtain ⟨e9, e9b⟩ := P9; subst e9; subst e9b; (try dsimp only); (try k_sweep); (try k_fold))) | (k_unfold; (try dsimp only)) | (k_end; kc_close) | walk1 | (dsimp only; walk1) | (leave1; walk_say "STEP leave1"; (try dsimp only)) | fail "no step"))
  all_goals (rename News _ _ _ _ => kN9; (try simp only [List.push_toArray] at kN9); exact hret _ _ _ _ ⟨rfl, rfl⟩ (by assumption) kN9)


/-- what stays of the lexer: its places, its dict, the list of its signs -/
structure LxK where
  x : Addr
  dx : Addr
  tb : Addr
  pb : Addr
  ct : Addr
  it : Addr
  cl : Addr
  h1 : Int
  h2 : Int
  h3 : Int
  h4 : Int
  h5 : Int
  t1 : Tok
  t2 : Tok
  t3 : Tok
  t4 : Tok
  t5 : Tok
  co : Value
  ndx : Nat
  ncl : Nat
  cs : List Addr
  sg : Addr → Nat
  lo : Addr → Addr
  row : Addr → Int
  col : Addr → Int
noncomputable def LxK.led (κ : LxK) (rest : List (Addr × Obj)) (tbs : List Value) (ntb : Nat) (pbs : List Value) (npb : Nat) (cts : List Value) (nct : Nat) (oit : Obj) : List (Addr × Obj) :=
  (κ.x, instObj 390 κ.dx) :: (κ.dx, lxDict κ.h1 κ.h2 κ.h3 κ.h4 κ.h5 κ.t1 κ.t2 κ.t3 κ.t4 κ.t5 κ.tb κ.pb κ.ct κ.it κ.co κ.ndx) :: (κ.tb, PySem.W.listOf tbs.toArray ntb) :: (κ.pb, PySem.W.listOf pbs.toArray npb) :: (κ.ct, PySem.W.listOf cts.toArray nct) :: (κ.it, oit) :: rest
/-- the sign object at c stands in the ledger -/
noncomputable def CharIn (rest : List (Addr × Obj)) (c : Addr) (g : Nat) (lo : Addr) : Prop :=
  ∃ (dc : Addr) (ch1 ch2 : Int) (ck1 ck2 ctk : Tok) (nc : Nat), (c, instObj 183 dc) ∈ rest ∧ (dc, dictOf [⟨ch1, .str (Str.ofString "char") ck1, .str ⟨#[g]⟩ ctk⟩, ⟨ch2, .str (Str.ofString "loc") ck2, .ref lo⟩] nc) ∈ rest
/-- the place object at a stands in the ledger -/
noncomputable def LocIn (rest : List (Addr × Obj)) (a : Addr) (r c : Int) : Prop :=
  ∃ (d : Addr) (t1 t2 t3 t4 : Tok), (a, (⟨.ref 79, some d, .plain, #[some (.int c t4), some (.str (Str.ofString "t.c") t3), some (.int 1 t1), some (.int r t2), some .none]⟩ : Obj)) ∈ rest ∧ (d, dictOf [] 0) ∈ rest
structure LxK.Ok (κ : LxK) (rest : List (Addr × Obj)) : Prop where
  o1 : @LT.lt Nat _ κ.dx κ.x
  o2 : @LT.lt Nat _ κ.x κ.tb
  o3 : @LT.lt Nat _ κ.tb κ.pb
  o4 : @LT.lt Nat _ κ.pb κ.ct
  o5 : @LT.lt Nat _ κ.ct κ.it
  off : OwnOff rest [κ.tb, κ.pb, κ.ct, κ.it]
  cl : (κ.cl, PySem.W.listOf (κ.cs.map Value.ref).toArray κ.ncl) ∈ rest
  few : κ.cs.length ≤ 900
  chars : ∀ c ∈ κ.cs, CharIn rest c (κ.sg c) (κ.lo c)
  locs : ∀ c ∈ κ.cs, LocIn rest (κ.lo c) (κ.row c) (κ.col c)
/-- where the signs that are still to come stand -/
inductive LxK.Strm (κ : LxK) : List Value → Obj → List Addr → Prop
  | live {oit : Obj} (i : Nat) : LiveIt oit κ.cl i → κ.Strm [] oit (κ.cs.drop i)
  | back {oit : Obj} (i : Nat) (c : Addr) : LiveIt oit κ.cl i → c ∈ κ.cs → κ.Strm [.ref c] oit (c :: κ.cs.drop i)
  | dead {oit : Obj} : DeadIt oit → κ.Strm [] oit []
/-- the lexer's ledger: the tokens held, the signs taken, the signs to come -/
structure LxK.At (κ : LxK) (rest : List (Addr × Obj)) (tbs : List Value) (cts rem : List Addr) (l : List (Addr × Obj)) : Prop where
  ex : ∃ ntb pbs npb nct oit, l = κ.led rest tbs ntb pbs npb (cts.map Value.ref) nct oit ∧ κ.Strm pbs oit rem
  few : cts.length + rem.length ≤ 900
  mem : ∀ c ∈ cts, c ∈ κ.cs
theorem LxK.Strm.mem {κ : LxK} {pbs : List Value} {oit : Obj} {rem : List Addr} (h : κ.Strm pbs oit rem) : ∀ c ∈ rem, c ∈ κ.cs := by
  cases h with
  | live i _ => exact fun c hc => List.mem_of_mem_drop hc
  | back i c _ hm => intro d hd; rcases List.mem_cons.mp hd with rfl | hd; exact hm; exact List.mem_of_mem_drop hd
  | dead _ => exact fun c hc => (nomatch hc)
theorem LxK.At.rem {κ : LxK} {rest : List (Addr × Obj)} {tbs : List Value} {cts rem : List Addr} {l : List (Addr × Obj)} (h : κ.At rest tbs cts rem l) : ∀ c ∈ rem, c ∈ κ.cs := by
  obtain ⟨⟨_, _, _, _, _, _, hs⟩, _, _⟩ := h
  exact hs.mem

/-- what accept(valid) does with the signs to come -/
inductive Acc (sg : Addr → Nat) (vs : Str) : Bool → List Addr → List Addr → List Addr → Prop
  | eof : Acc sg vs false [] [] []
  | yes (c : Addr) (r : List Addr) : sg c ∈ vs.cps.toList → Acc sg vs true (c :: r) [c] r
  | no (c : Addr) (r : List Addr) : ¬ sg c ∈ vs.cps.toList → Acc sg vs false (c :: r) [] (c :: r)

theorem accept_ok {w : World} {mean : ExcName → Option Value} {mg mb : Str → Option Value} {κ : LxK} {rest : List (Addr × Obj)} (ok : κ.Ok rest) {tbs : List Value} {cts rem : List Addr} {l : List (Addr × Obj)} (hat : κ.At rest tbs cts rem l) {vs : Str} {vt : Tok} :
    CallOk w mean mg mb 244 [.ref κ.x, .str vs vt] l (fun v l' => ∃ b e r, Acc κ.sg vs b rem e r ∧ v = .bool b ∧ κ.At rest tbs (cts ++ e) r l') 6 60 := by
  obtain ⟨⟨ntb, pbs, npb, nct, oit, rfl, hs⟩, few, hm⟩ := hat
  have hlen : (cts.map Value.ref).length ≤ 1000 := by rw [List.length_map]; omega
  cases hs with
  | dead hv =>
    refine (accept_gone ok.o1 ok.o2 ok.o3 ok.o4 ok.o5 ok.off hlen hv).mono ?_
    rintro v l ⟨rfl, rfl⟩
    exact ⟨false, [], [], .eof, rfl, ⟨⟨_, _, _, _, _, by rw [List.append_nil]; rfl, .dead hv⟩, by simpa using few, by simpa using hm⟩⟩
  | back i c hv hcm =>
    obtain ⟨dc, ch1, ch2, ck1, ck2, ctk, nc, hc, hdc⟩ := ok.chars c hcm
    refine (accept_pb ok.o1 ok.o2 ok.o3 ok.o4 ok.o5 ok.off hlen hc hdc).mono ?_
    simp only [List.length_cons] at few
    rintro v l (⟨rfl, hd, rfl⟩ | ⟨rfl, hd, rfl⟩)
    · refine ⟨true, [c], _, .yes c _ (of_decide_eq_true hd), rfl, ⟨⟨_, _, _, _, _, by rw [List.map_append]; rfl, .live i hv⟩, by simp only [List.length_append, List.length_cons, List.length_nil]; omega, ?_⟩⟩
      intro d hd'; rcases List.mem_append.mp hd' with h | h; exact hm d h; rw [List.mem_singleton.mp h]; exact hcm
    · exact ⟨false, [], _, .no c _ (of_decide_eq_false hd), rfl, ⟨⟨_, _, _, _, _, by rw [List.append_nil]; rfl, .back i c hv hcm⟩, by simp only [List.length_append, List.length_cons, List.length_nil]; omega, by simpa using hm⟩⟩
  | live i hv =>
    cases hx : κ.cs[i]? with
    | none =>
      have hx' : (κ.cs.map Value.ref).toArray[i]? = none := by simp [hx]
      have hdrop : κ.cs.drop i = [] := List.drop_eq_nil_of_le (List.getElem?_eq_none_iff.mp hx)
      rw [hdrop]
      refine (accept_over ok.o1 ok.o2 ok.o3 ok.o4 ok.o5 ok.off hlen hv ok.cl hx').mono ?_
      rintro v l ⟨rfl, o, ho, rfl⟩
      exact ⟨false, [], [], .eof, rfl, ⟨⟨_, _, _, _, _, by rw [List.append_nil]; rfl, .dead ho⟩, by simp only [List.append_nil, List.length_nil]; omega, by simpa using hm⟩⟩
    | some c =>
      have hx' : (κ.cs.map Value.ref).toArray[i]? = some (.ref c) := by simp [hx]
      obtain ⟨hil, hic⟩ := List.getElem?_eq_some_iff.mp hx
      have hcm : c ∈ κ.cs := hic ▸ List.getElem_mem hil
      have hdrop : κ.cs.drop i = c :: κ.cs.drop (i + 1) := by rw [← hic]; exact List.drop_eq_getElem_cons hil
      rw [hdrop] at few ⊢
      simp only [List.length_cons] at few
      obtain ⟨dc, ch1, ch2, ck1, ck2, ctk, nc, hc, hdc⟩ := ok.chars c hcm
      refine (accept_live ok.o1 ok.o2 ok.o3 ok.o4 ok.o5 ok.off hlen hc hdc hv ok.cl hx').mono ?_
      rintro v l (⟨rfl, hd, o, ho, rfl⟩ | ⟨rfl, hd, o, ho, rfl⟩)
      · refine ⟨true, [c], _, .yes c _ (of_decide_eq_true hd), rfl, ⟨⟨_, _, _, _, _, by rw [List.map_append]; rfl, .live (i + 1) ho⟩, by simp only [List.length_append, List.length_cons, List.length_nil]; omega, ?_⟩⟩
        intro d hd'; rcases List.mem_append.mp hd' with h | h; exact hm d h; rw [List.mem_singleton.mp h]; exact hcm
      · exact ⟨false, [], _, .no c _ (of_decide_eq_false hd), rfl, ⟨⟨_, _, _, _, _, by rw [List.append_nil]; rfl, .back (i + 1) c ho hcm⟩, by simp only [List.length_append, List.length_cons, List.length_nil]; omega, by simpa using hm⟩⟩

/-- the ways out of the lexer's calls, the ledger taken apart -/
theorem ret_at {κ : LxK} {rest : List (Addr × Obj)} {tbs : List Value} {cts rem : List Addr} {h₀ : Heap} {L : Addr} {m : Str → Option Value} {R : Value → Heap → Nat → Prop} {V : Value}
    (k : ∀ (h' : Heap) (tk' : Nat) (ntb : Nat) (pbs : List Value) (npb nct : Nat) (oit : Obj), κ.Strm pbs oit rem → κ.At rest tbs cts rem ((κ.x, instObj 390 κ.dx) :: (κ.dx, lxDict κ.h1 κ.h2 κ.h3 κ.h4 κ.h5 κ.t1 κ.t2 κ.t3 κ.t4 κ.t5 κ.tb κ.pb κ.ct κ.it κ.co κ.ndx) :: (κ.tb, PySem.W.listOf (tbs).toArray ntb) :: (κ.pb, PySem.W.listOf pbs.toArray npb) :: (κ.ct, PySem.W.listOf ((cts).map Value.ref).toArray nct) :: (κ.it, oit) :: rest) → Fr h₀ L h' m → News h₀ L h' ((κ.x, instObj 390 κ.dx) :: (κ.dx, lxDict κ.h1 κ.h2 κ.h3 κ.h4 κ.h5 κ.t1 κ.t2 κ.t3 κ.t4 κ.t5 κ.tb κ.pb κ.ct κ.it κ.co κ.ndx) :: (κ.tb, PySem.W.listOf (tbs).toArray ntb) :: (κ.pb, PySem.W.listOf pbs.toArray npb) :: (κ.ct, PySem.W.listOf ((cts).map Value.ref).toArray nct) :: (κ.it, oit) :: rest) → R V h' tk') :
    ∀ v led' h' tk', (v = V ∧ κ.At rest tbs cts rem led') → Fr h₀ L h' m → News h₀ L h' led' → R v h' tk' := by
  rintro v l h' tk' ⟨rfl, hat⟩ F N
  obtain ⟨⟨ntb, pbs, npb, nct, oit, rfl, hs⟩, _⟩ := id hat
  exact k h' tk' ntb pbs npb nct oit hs hat F N
theorem ret_acc {κ : LxK} {rest : List (Addr × Obj)} {tbs : List Value} {cts rem : List Addr} {h₀ : Heap} {L : Addr} {m : Str → Option Value} {R : Value → Heap → Nat → Prop} {vs : Str}
    (k : ∀ (h' : Heap) (tk' : Nat) (b : Bool) (e r : List Addr) (ntb : Nat) (pbs : List Value) (npb nct : Nat) (oit : Obj), Acc κ.sg vs b rem e r → κ.Strm pbs oit r → κ.At rest tbs (cts ++ e) r ((κ.x, instObj 390 κ.dx) :: (κ.dx, lxDict κ.h1 κ.h2 κ.h3 κ.h4 κ.h5 κ.t1 κ.t2 κ.t3 κ.t4 κ.t5 κ.tb κ.pb κ.ct κ.it κ.co κ.ndx) :: (κ.tb, PySem.W.listOf (tbs).toArray ntb) :: (κ.pb, PySem.W.listOf pbs.toArray npb) :: (κ.ct, PySem.W.listOf ((cts ++ e).map Value.ref).toArray nct) :: (κ.it, oit) :: rest) → Fr h₀ L h' m → News h₀ L h' ((κ.x, instObj 390 κ.dx) :: (κ.dx, lxDict κ.h1 κ.h2 κ.h3 κ.h4 κ.h5 κ.t1 κ.t2 κ.t3 κ.t4 κ.t5 κ.tb κ.pb κ.ct κ.it κ.co κ.ndx) :: (κ.tb, PySem.W.listOf (tbs).toArray ntb) :: (κ.pb, PySem.W.listOf pbs.toArray npb) :: (κ.ct, PySem.W.listOf ((cts ++ e).map Value.ref).toArray nct) :: (κ.it, oit) :: rest) → R (.bool b) h' tk') :
    ∀ v led' h' tk', (∃ b e r, Acc κ.sg vs b rem e r ∧ v = .bool b ∧ κ.At rest tbs (cts ++ e) r led') → Fr h₀ L h' m → News h₀ L h' led' → R v h' tk' := by
  rintro v l h' tk' ⟨b, e, r, hA, rfl, hat⟩ F N
  obtain ⟨⟨ntb, pbs, npb, nct, oit, rfl, hs⟩, _⟩ := id hat
  exact k h' tk' b e r ntb pbs npb nct oit hA hs hat F N
end
section
open PySem PySem.W PyProof.Rows PySem.Calls
set_option maxRecDepth 100000
set_option maxHeartbeats 8000000



theorem Acc.isTrue {sg : Addr → Nat} {vs : Str} {rem e r : List Addr} (h : Acc sg vs true rem e r) : ∃ c, rem = c :: r ∧ e = [c] ∧ sg c ∈ vs.cps.toList := by
  cases h with
  | yes c r hc => exact ⟨c, rfl, rfl, hc⟩
theorem Acc.isFalse {sg : Addr → Nat} {vs : Str} {rem e r : List Addr} (h : Acc sg vs false rem e r) : e = [] ∧ r = rem ∧ (rem = [] ∨ ∃ c r', rem = c :: r' ∧ ¬ sg c ∈ vs.cps.toList) := by
  cases h with
  | eof => exact ⟨rfl, rfl, .inl rfl⟩
  | no c r hc => exact ⟨rfl, rfl, .inr ⟨c, r, rfl, hc⟩⟩
theorem run_stop {sg : Addr → Nat} {vs : Str} {rem e r : List Addr} (hrem : rem = e ++ r) (hall : ∀ c ∈ e, sg c ∈ vs.cps.toList) (hr : r = [] ∨ ∃ c r', r = c :: r' ∧ ¬ sg c ∈ vs.cps.toList) :
    (rem.takeWhile fun c => decide (sg c ∈ vs.cps.toList)) = e ∧ (rem.dropWhile fun c => decide (sg c ∈ vs.cps.toList)) = r := by
  subst hrem
  induction e with
  | nil =>
    rcases hr with rfl | ⟨c, r', rfl, hc⟩
    · exact ⟨rfl, rfl⟩
    · simp only [List.nil_append, List.takeWhile_cons, List.dropWhile_cons, decide_eq_false hc, Bool.false_eq_true, if_false, and_self]
  | cons d e ih =>
    have hd := hall d (.head _)
    obtain ⟨a, b⟩ := ih fun c hc => hall c (.tail _ hc)
    simp only [List.cons_append, List.takeWhile_cons, List.dropWhile_cons, hd, decide_true, if_true]
    exact ⟨by rw [a], b⟩
theorem accept_run_ok {w : World} {mean : ExcName → Option Value} {mg mb : Str → Option Value} {κ : LxK} {rest : List (Addr × Obj)} (ok : κ.Ok rest) {tbs : List Value} {cts rem : List Addr} {l : List (Addr × Obj)} (hat : κ.At rest tbs cts rem l) {vs : Str} {vt : Tok} :
    CallOk w mean mg mb 251 [.ref κ.x, .str vs vt] l (fun v l' => v = .none ∧ κ.At rest tbs (cts ++ rem.takeWhile fun c => decide (κ.sg c ∈ vs.cps.toList)) (rem.dropWhile fun c => decide (κ.sg c ∈ vs.cps.toList)) l') 8 80 := by
  intro dp un gd cn csn csg csc csm a ccd cl9 outer A₀ base h₀ L m s Q E B F X N T hd hu hret
  refine wpAny_call ?_
  k_dflt k_enter
  walk1
  walk1
  rename Fr _ _ _ _ => F1
  rename News _ _ _ _ => N1
  refine While_inv2 (n₀ := rem.length) (fun n m' nw => m' = _ ∧ ∃ e r, rem = e ++ r ∧ (∀ c ∈ e, κ.sg c ∈ vs.cps.toList) ∧ κ.At rest tbs (cts ++ e) r nw ∧ n = r.length) F1 N1 ⟨rfl, [], rem, rfl, (fun _ h => nomatch h), by simpa using hat, rfl⟩ ?_
  clear F1 N1 hat N F
  rintro n m₁ news₁ h₁ tk₁ F₁ N₁ ⟨rfl, e, r, hrem, hall, hat9, rfl⟩
  obtain ⟨⟨ntb9, pbs9, npb9, nct9, oit9, e9l, hs9⟩, few9, hm9⟩ := id hat9
  subst e9l
  unfold LxK.led at hat9 N₁
  (repeat' (first | ((k_here; (with_reducible show wpAny _ _ (call (Value.ref _) _) _ _ _); k_dflt (refine' CallOk.use (accept_ok ?a0 ?a1) ?B ?F ?X ?N ?T ?d ?u (ret_acc ?_); (case N => k_asm); (case F => k_asm); (case B => k_asm); (case X => k_asm); (case T => k_asm); (case a0 => assumption); (case a1 => assumption); (case d => ktr_room); (case u => ktr_units); k_whole); intro h9 tk9 b9 e9 r9 ntb9 pbs9 npb9 nct9 oit9 hA9 hs9 hat9 F9 N9; (try dsimp only); (try k_sweep); (try k_fold))) | (k_unfold; (try dsimp only)) | (k_end; kc_close) | walk1 | (dsimp only; walk1) | (leave1; walk_say "STEP leave1"; (try dsimp only)) | fail "no step"))
  · rename Acc _ _ _ _ _ _ => hA
    rename (_ : Bool) = true => hb
    subst hb
    rename LxK.At _ _ _ _ _ _ => hat
    rename News _ _ _ _ => N9
    rename Fr _ _ _ _ => F9
    obtain ⟨c, hr, he, hc⟩ := hA.isTrue
    subst he
    refine ⟨_, _, _, _, r9.length, rfl, F9, N9, ?_, rfl, e ++ [c], r9, ?_, ?_, ?_, rfl⟩
    · rw [hr]; exact Nat.lt_succ_self _
    · rw [hrem, hr, List.append_assoc]; rfl
    · intro d hd; rcases List.mem_append.mp hd with h | h
      · exact hall d h
      · rw [List.mem_singleton.mp h]; exact hc
    · rw [← List.append_assoc]; exact hat
  · rename Acc _ _ _ _ _ _ => hA
    rename (_ : Bool) = false => hb
    subst hb
    rename LxK.At _ _ _ _ _ _ => hat
    rename News _ _ _ _ => N9
    rename Fr _ _ _ _ => F9
    obtain ⟨he, hr, hst⟩ := hA.isFalse
    subst he
    subst hr
    obtain ⟨t1, t2⟩ := run_stop hrem hall hst
    exact hret _ _ _ _ ⟨rfl, by rw [t1, t2]; simpa using hat⟩ F9 N9
end
section
open PySem PySem.W PyProof.Rows PySem.Calls
set_option maxRecDepth 100000
set_option maxHeartbeats 8000000


/-- the generators' states behind a call: the old ones as they were, the new ones bare -/
structure GensUp (a b : Array GenState) : Prop where
  size : a.size ≤ b.size
  same : ∀ i, i < a.size → b[i]? = a[i]?
  fresh : ∀ i y, a.size ≤ i → b[i]? = some y → y.bare = true
theorem GensUp.refl (a : Array GenState) : GensUp a a := ⟨Nat.le_refl _, fun _ _ => rfl, fun i y hi e => by rw [Array.getElem?_eq_none hi] at e; cases e⟩
theorem GensUp.trans {a b c : Array GenState} (x : GensUp a b) (y : GensUp b c) : GensUp a c :=
  ⟨Nat.le_trans x.size y.size, fun i h => (y.same i (Nat.lt_of_lt_of_le h x.size)).trans (x.same i h), fun i z hi e => by
    by_cases hb : i < b.size
    · rw [y.same i hb] at e; exact x.fresh i z hi e
    · exact y.fresh i z (Nat.le_of_not_lt hb) e⟩
theorem GensUp.of_push {a b : Array GenState} {gs : GenState} (hb : gs.bare = true) (h : GenOnlyQ a.size (a.push gs) b) : GensUp a b := by
  rcases h with rfl | ⟨⟨h1, h2⟩, h3⟩
  · refine ⟨by simp, fun i hi => ?_, fun i y hi e => ?_⟩
    · rw [Array.getElem?_push]
      simp [Nat.ne_of_lt hi]
    · rw [Array.getElem?_push] at e
      split at e
      · cases e; exact hb
      · rw [Array.getElem?_eq_none hi] at e; cases e
  · refine ⟨by rw [h1]; simp, fun i hi => ?_, fun i y hi e => ?_⟩
    · rw [h2 i (Nat.ne_of_lt hi), Array.getElem?_push]
      simp [Nat.ne_of_lt hi]
    · by_cases hia : i = a.size
      · subst hia; exact h3 _ e
      · have hs := (Array.getElem?_eq_some_iff.mp e).1
        rw [h1, Array.size_push] at hs
        omega

/-- as CallOk, for a call that makes generators -/
noncomputable def CallOkG (w : World) (mean : ExcName → Option Value) (mg mb : Str → Option Value) (f : Addr) (args : List Value) (led : List (Addr × Obj)) (Post : Value → List (Addr × Obj) → Prop) (D U : Nat) : Prop :=
  ∀ (dp un : Nat) (gd : Option (List Code)) (cn : Str) (csn : List (Str × NameKind)) (csg csc : Bool) (csm : List (Str × Const)) (a : Addr) (ccd : Value) (cl : List (Str × Addr)) (outer : List Env) (A₀ : Around) (base h₀ : Heap) (L : Addr) (m : Str → Option Value) (s : Shared) (Q E : Value → Shared → Prop),
    Below A₀ base outer h₀ → Fr h₀ L s.heap m → (hd.heap_39 w.params).In h₀ → News h₀ L s.heap led → Top view loose mean mg mb h₀ → dp + D < recursionLimit → un + U < cLine →
    (∀ v led' h' gn' tk', Post v led' → GensUp s.gens gn' → Fr h₀ L h' m → News h₀ L h' led' → Q v { s with heap := h', gens := gn', toks := tk' }) →
    wpAny (model PySem.Challenge.pw_rk0008_01 w) (ktrTop dp un gd cn ⟨ScopeKind.function, csn, csg, csc, csm⟩ L a ccd cl outer) (call (.ref f) args) Q E s
theorem CallOkG.use {w : World} {mean : ExcName → Option Value} {mg mb : Str → Option Value} {f : Addr} {args : List Value} {led : List (Addr × Obj)} {Post : Value → List (Addr × Obj) → Prop} {D U : Nat}
    {dp un : Nat} {gd : Option (List Code)} {cn : Str} {csn : List (Str × NameKind)} {csg csc : Bool} {csm : List (Str × Const)} {a : Addr} {ccd : Value} {cl : List (Str × Addr)} {outer : List Env} {A₀ : Around} {base h₀ : Heap} {L : Addr} {m : Str → Option Value} {s : Shared} {Q E : Value → Shared → Prop}
    (C : CallOkG w mean mg mb f args led Post D U) (B : Below A₀ base outer h₀) (F : Fr h₀ L s.heap m) (X : (hd.heap_39 w.params).In h₀) (N : News h₀ L s.heap led) (T : Top view loose mean mg mb h₀) (hd : dp + D < recursionLimit) (hu : un + U < cLine)
    (ret : ∀ v led' h' gn' tk', Post v led' → GensUp s.gens gn' → Fr h₀ L h' m → News h₀ L h' led' → Q v { s with heap := h', gens := gn', toks := tk' }) :
    wpAny (model PySem.Challenge.pw_rk0008_01 w) (ktrTop dp un gd cn ⟨ScopeKind.function, csn, csg, csc, csm⟩ L a ccd cl outer) (call (.ref f) args) Q E s := C _ _ _ _ _ _ _ _ _ _ _ _ _ _ _ _ _ _ _ _ B F X N T hd hu ret

/-- where emit's generator expression stands -/
noncomputable abbrev gxPos : Pos := ⟨99, 22, 99, 57⟩
/-- a token in the ledger -/
noncomputable def TokIn (l : List (Addr × Obj)) (a : Addr) (ty val : Str) (lo : Addr) : Prop :=
  ∃ (d : Addr) (t1 t2 : Tok), (a, (⟨.ref 47, some d, .plain, #[some (.ref lo), some (.str ty t2), some (.str val t1)]⟩ : Obj)) ∈ l ∧ (d, dictOf [] 0) ∈ l


theorem CharIn.tl {P : Addr} {ps : Array Value} {rest : List (Addr × Obj)} {c : Addr} {g : Nat} {lo : Addr} (h : CharIn ((P, tabObj ps) :: rest) c g lo) : CharIn rest c g lo := by
  obtain ⟨dc, ch1, ch2, ck1, ck2, ctk, nc, h1, h2⟩ := h
  refine ⟨dc, ch1, ch2, ck1, ck2, ctk, nc, ?_, ?_⟩
  · rcases List.mem_cons.mp h1 with e | e
    · cases e
    · exact e
  · rcases List.mem_cons.mp h2 with e | e
    · cases e
    · exact e
theorem LocIn.tl {P : Addr} {ps : Array Value} {rest : List (Addr × Obj)} {a : Addr} {r c : Int} (h : LocIn ((P, tabObj ps) :: rest) a r c) : LocIn rest a r c := by
  obtain ⟨d, t1, t2, t3, t4, h1, h2⟩ := h
  refine ⟨d, t1, t2, t3, t4, ?_, ?_⟩
  · rcases List.mem_cons.mp h1 with e | e
    · cases e
    · exact e
  · rcases List.mem_cons.mp h2 with e | e
    · cases e
    · exact e
/-- the lexer's ledger with emit's table of code objects -/
structure LxK.Em (κ : LxK) (ps : Array Value) (rest : List (Addr × Obj)) : Prop where
  ok : κ.Ok ((225, tabObj ps) :: rest)
  tab : TabOne gxPos ps
  low : @LT.lt Nat _ 500 κ.dx
  off : OwnOff rest [225]
theorem CharIn.sub {l l' : List (Addr × Obj)} {c : Addr} {g : Nat} {lo : Addr} (h : CharIn l c g lo) (s : ∀ p ∈ l, p ∈ l') : CharIn l' c g lo := by
  obtain ⟨dc, ch1, ch2, ck1, ck2, ctk, nc, h1, h2⟩ := h
  exact ⟨dc, ch1, ch2, ck1, ck2, ctk, nc, s _ h1, s _ h2⟩
theorem LocIn.sub {l l' : List (Addr × Obj)} {a : Addr} {r c : Int} (h : LocIn l a r c) (s : ∀ p ∈ l, p ∈ l') : LocIn l' a r c := by
  obtain ⟨d, t1, t2, t3, t4, h1, h2⟩ := h
  exact ⟨d, t1, t2, t3, t4, s _ h1, s _ h2⟩
theorem TokIn.sub {l l' : List (Addr × Obj)} {a : Addr} {ty val : Str} {lo : Addr} (h : TokIn l a ty val lo) (s : ∀ p ∈ l, p ∈ l') : TokIn l' a ty val lo := by
  obtain ⟨d, t1, t2, h1, h2⟩ := h
  exact ⟨d, t1, t2, s _ h1, s _ h2⟩
theorem LxK.Em.grow {κ : LxK} {ps ps' : Array Value} {rest new : List (Addr × Obj)} (h : κ.Em ps rest) (ht : TabOne gxPos ps') (hn : OwnOff new [225, κ.tb, κ.pb, κ.ct, κ.it]) : κ.Em ps' (new ++ rest) := by
  have sb : ∀ p ∈ rest, p ∈ (225, tabObj ps') :: (new ++ rest) := fun p hp => .tail _ (List.mem_append.mpr (.inr hp))
  refine ⟨⟨h.ok.o1, h.ok.o2, h.ok.o3, h.ok.o4, h.ok.o5, ?_, ?_, h.ok.few, fun c hc => (h.ok.chars c hc).tl.sub sb, fun c hc => (h.ok.locs c hc).tl.sub sb⟩, ht, h.low, ?_⟩
  · intro p hp b hb
    rcases List.mem_cons.mp hp with rfl | hp
    · exact h.ok.off _ (.head _) b hb
    · rcases List.mem_append.mp hp with hp | hp
      · exact hn p hp b (.tail _ hb)
      · exact h.ok.off p (.tail _ hp) b hb
  · rcases List.mem_cons.mp h.ok.cl with e | e
    · have := congrArg Prod.snd e; cases this
    · exact sb _ e
  · intro p hp b hb
    rcases List.mem_append.mp hp with hp | hp
    · rw [List.mem_singleton.mp hb]; exact hn p hp 225 (.head _)
    · exact h.off p hp b hb
/-- what a token's emission adds to the ledger's tail -/
structure LxK.New (κ : LxK) (ps' : Array Value) (new rest : List (Addr × Obj)) : Prop where
  tab : TabOne gxPos ps'
  off : OwnOff new [225, κ.tb, κ.pb, κ.ct, κ.it]
  above : ∀ p ∈ new, ∀ q ∈ rest, @LT.lt Nat _ q.1 p.1
theorem LxK.New.em {κ : LxK} {ps ps' : Array Value} {new rest : List (Addr × Obj)} (n : κ.New ps' new rest) (h : κ.Em ps rest) : κ.Em ps' (new ++ rest) := h.grow n.tab n.off
/-- the text of the signs taken -/
theorem signs_list (sg : Addr → Nat) (cs : List Addr) : ((List.range (cs.map Value.ref).toArray.size).map fun j => match cs[j]? with | some c => (⟨#[sg c]⟩ : Str) | none => ⟨#[]⟩) = cs.map fun c => (⟨#[sg c]⟩ : Str) := by
  apply List.ext_getElem?
  intro j
  simp only [List.size_toArray, List.length_map, List.getElem?_map]
  by_cases hj : j < cs.length
  · simp [List.getElem?_range hj, List.getElem?_eq_getElem hj]
  · rw [List.getElem?_eq_none (l := List.range cs.length) (by simpa using Nat.le_of_not_lt hj), List.getElem?_eq_none (l := cs) (Nat.le_of_not_lt hj)]; rfl
theorem join_empty (sg : Addr → Nat) : ∀ cs : List Addr, Str.join (Str.ofString "") (cs.map fun c => (⟨#[sg c]⟩ : Str)) = ⟨(cs.map sg).toArray⟩
  | [] => rfl
  | [c] => rfl
  | c :: d :: r => by
    have h := join_empty sg (d :: r)
    simp only [List.map_cons] at h ⊢
    show (⟨#[sg c]⟩ : Str) ++ Str.ofString "" ++ Str.join (Str.ofString "") (_ :: _) = _
    rw [h]
    show (⟨#[sg c] ++ #[] ++ _⟩ : Str) = _
    congr 1
    simp
theorem join_signs (sg : Addr → Nat) (cs : List Addr) : Txt.join (Str.ofString "") ((List.range (cs.map Value.ref).toArray.size).map fun j => match cs[j]? with | some c => (⟨#[sg c]⟩ : Str) | none => ⟨#[]⟩) = ⟨(cs.map sg).toArray⟩ := by
  rw [signs_list, ← join_empty]
  exact PySem.StrLaws.glued_eq_join _ _
theorem join_ok (sg : Addr → Nat) (cs : List Addr) (h : cs.length ≤ 900) : JoinOk (Str.ofString "") ((List.range (cs.map Value.ref).toArray.size).map fun j => match cs[j]? with | some c => (⟨#[sg c]⟩ : Str) | none => ⟨#[]⟩) = true := by
  rw [signs_list]
  refine joinOk_of ?_
  have e0 : (Str.ofString "").length = 0 := rfl
  have e1 : ((cs.map fun c => (⟨#[sg c]⟩ : Str)).map (·.length)).sum = cs.length := by
    clear h e0
    induction cs with
    | nil => rfl
    | cons c r ih => simp only [List.map_cons, List.sum_cons, List.length_cons] at ih ⊢; rw [ih]; show 1 + _ = _; omega
  rw [e1, e0]
  omega
theorem newsLt {h₀ h : Heap} {L : Addr} {led : List (Addr × Obj)} (N : News h₀ L h led) {led' : List (Addr × Obj)} (e : led'.map (·.1) = led.map (·.1)) : ∀ q ∈ led', q.1 < h.objs.size := by
  intro q hq
  have hm : q.1 ∈ led.map (·.1) := e ▸ List.mem_map_of_mem hq
  obtain ⟨p, hp, he⟩ := List.mem_map.mp hm
  rw [← he]
  exact Heap.lt_size (N p hp).1
/-- the element of emit's generator expression: c.char -/
theorem genexp_elt {w : World} {A : Around} {E : Value → Shared → Prop} {h₀ h : Heap} {L P D c dc : Addr} {code : Value} {m m₂ : Str → Option Value} {news : List (Addr × Obj)} {oPs : Array Value} {ch1 ch2 : Int} {ck1 ck2 ctk : Tok} {g nc : Nat} {lo : Value} {t : Shared} {F : Prop} {env : Env} {scope : Scope} {cl : List (Str × Addr)} {p1 p2 : Pos}
    (X : (hd.heap_39 w.params).In h₀) (Fh : Fr h₀ L h m) (N : News h₀ L h news) (hP : (P, tabObj oPs) ∈ news) (h1 : (c, instObj 183 dc) ∈ news) (h2 : (dc, dictOf [⟨ch1, .str (Str.ofString "char") ck1, .str ⟨#[g]⟩ ctk⟩, ⟨ch2, .str (Str.ofString "loc") ck2, lo⟩] nc) ∈ news)
    (hn : t.heap.Ns D m₂) (hm : m₂ (Str.ofString "c") = some (.ref c)) (hk : ∀ b o, b ≠ P → h.get? b = some o → t.heap.get? b = some o) (hF : F)
    (hkind : scope.kind = .function) (hl : scope.names.lookup (Str.ofString "c") = some .local) :
    wpAny (model PySem.Challenge.pw_rk0008_01 w) A (eval (.Attribute (.Name (Str.ofString "c") p1) (Str.ofString "char") p2) (genEnv scope cl D code builtinsNs env)) (fun y s₃ => (F ∧ ∃ u, y = .str ⟨#[g]⟩ u) ∧ Keeps t s₃) E t := by
  have nP : ∀ {b : Addr} {o : Obj}, (b, o) ∈ news → o ≠ tabObj oPs → b ≠ P := fun hb ho e => by
    have q := (N _ hb).1
    rw [e, (N _ hP).1] at q
    exact ho (Option.some.inj q).symm
  have X2 : (hd.heap_39 w.params).In t.heap := fun b o e => hk b o (fun z => by have q := X b o e; rw [z, (N _ hP).2.2] at q; cases q) (Fh.keep b o (X b o e))
  have g1 := hk c _ (nP h1 (by intro e; cases e)) (N _ h1).1
  have g2 := hk dc _ (nP h2 (by intro e; cases e)) (N _ h2).1
  refine Attribute_name (wpAny_Name (wpAny_loadName_local hkind hl hn hm ?_) (by decide))
  refine get_value X2 ⟨g1, rfl, rfl, g2⟩ (plainGet_of (K := hd.heap_39 w.params) (C := 183) (name := Str.ofString "char") (by k_is)).1 (findObj_own (by k_is) (by k_is) (by k_is) (by rw [lookIn_dict]; k_get)) rfl ⟨⟨hF, _, rfl⟩, ⟨_, _, rfl, fun _ _ e => e⟩⟩
theorem emit_end {κ : LxK} {ps ps' : Array Value} {rest : List (Addr × Obj)} (em : κ.Em ps rest) {c0 : Addr} {cr rem : List Addr} (few : (c0 :: cr).length + rem.length ≤ 900) {pbs : List Value} {oit : Obj} (hs : κ.Strm pbs oit rem) (ht : TabOne gxPos ps')
    {tok d : Addr} (hrest : ∀ p ∈ rest, p.1 < d) (hl : κ.x < d ∧ κ.dx < d ∧ κ.tb < d ∧ κ.pb < d ∧ κ.ct < d ∧ κ.it < d ∧ 225 < d ∧ AllLt d rest) (hd : d < tok) {h₀ h : Heap} {L : Addr} {ty val : Str} {t1 t2 : Tok} {ntb npb nct : Nat} {G : Prop}
    (N : News h₀ L h ((tok, (⟨.ref 47, some d, .plain, #[some (.ref (κ.lo c0)), some (.str ty t2), some (.str val t1)]⟩ : Obj)) :: (d, dictOf [] 0) :: (κ.x, instObj 390 κ.dx) :: (κ.dx, lxDict κ.h1 κ.h2 κ.h3 κ.h4 κ.h5 κ.t1 κ.t2 κ.t3 κ.t4 κ.t5 κ.tb κ.pb κ.ct κ.it κ.co κ.ndx) ::
      (κ.tb, PySem.W.listOf [Value.ref tok].toArray ntb) :: (κ.pb, PySem.W.listOf pbs.toArray npb) :: (κ.ct, PySem.W.listOf ([] : List Value).toArray nct) :: (κ.it, oit) :: (225, tabObj ps') :: rest))
    (k : ∀ l', (∃ ps' new tok, κ.New ps' new rest ∧ κ.At ((225, tabObj ps') :: (new ++ rest)) [.ref tok] [] rem l' ∧ TokIn new tok ty val (κ.lo c0)) → News h₀ L h l' → G) : G := by
  have hdn : @LT.lt Nat _ d tok := hd
  obtain ⟨l1, l2, l3, l4, l5, l6, l7, _⟩ := hl
  have m1 : @LT.lt Nat _ κ.tb d := l3
  have m2 : @LT.lt Nat _ κ.pb d := l4
  have m3 : @LT.lt Nat _ κ.ct d := l5
  have m4 : @LT.lt Nat _ κ.it d := l6
  have m5 : @LT.lt Nat _ 225 d := l7
  refine k (κ.led ((225, tabObj ps') :: ([(tok, (⟨.ref 47, some d, .plain, #[some (.ref (κ.lo c0)), some (.str ty t2), some (.str val t1)]⟩ : Obj)), (d, dictOf [] 0)] ++ rest)) [.ref tok] ntb pbs npb [] nct oit) ⟨ps', _, tok, ⟨ht, ?_, ?_⟩, ⟨⟨_, _, _, _, _, rfl, hs⟩, ?_, fun _ h => nomatch h⟩, ⟨d, t1, t2, .head _, .tail _ (.head _)⟩⟩ ?_
  · intro p hp b hb e
    have e' : @Eq Nat p.1 b := e
    simp only [List.mem_cons, List.not_mem_nil, or_false] at hp hb
    rcases hp with rfl | rfl <;> rcases hb with rfl | rfl | rfl | rfl | rfl <;> simp only at e' <;> first | exact Nat.ne_of_gt (Nat.lt_trans (by assumption) hdn) e' | exact Nat.ne_of_gt (by assumption) e' | omega
  · intro p hp q hq
    have hqd : @LT.lt Nat _ q.1 d := hrest q hq
    simp only [List.mem_cons, List.not_mem_nil, or_false] at hp
    rcases hp with rfl | rfl
    · exact Nat.lt_trans hqd hdn
    · exact hqd
  · simp only [List.length_cons, List.length_nil] at few ⊢; omega
  · intro p hp
    simp only [LxK.led, List.cons_append, List.nil_append, List.mem_cons] at hp
    rcases hp with rfl | rfl | rfl | rfl | rfl | rfl | rfl | rfl | rfl | hp
    · exact N _ (by k_mem)
    · exact N _ (by k_mem)
    · exact N _ (by k_mem)
    · exact N _ (by k_mem)
    · exact N _ (by k_mem)
    · exact N _ (by k_mem)
    · exact N _ (by k_mem)
    · exact N _ (by k_mem)
    · exact N _ (by k_mem)
    · exact N p (by simp only [List.mem_cons, hp, or_true])
theorem emit_ok {w : World} {mean : ExcName → Option Value} {mg mb : Str → Option Value} {κ : LxK} {rest : List (Addr × Obj)} {ps : Array Value} (em : κ.Em ps rest) {cts rem : List Addr} {l : List (Addr × Obj)} (hat9 : κ.At ((225, tabObj ps) :: rest) [] cts rem l) {c0 : Addr} {cr : List Addr} (hcts : cts = c0 :: cr) {ty : Str} {tyt : Tok} :
    CallOkG w mean mg mb 230 [.ref κ.x, .str ty tyt] l (fun v l' => v = .none ∧ ∃ ps' new tok, κ.New ps' new rest ∧ κ.At ((225, tabObj ps') :: (new ++ rest)) [.ref tok] [] rem l' ∧ TokIn new tok ty ⟨(cts.map κ.sg).toArray⟩ (κ.lo c0)) 8 80 := by
  intro dp un gd cn csn csg csc csm a ccd cl9 outer A₀ base h₀ L m s Q E B F X N T hd hu hret
  obtain ⟨⟨ntb9, pbs9, npb9, nct9, oit9, e9l, hs9⟩, few9, hm9⟩ := id hat9
  subst e9l
  unfold LxK.led at hat9 N
  subst hcts
  have ok := em.ok
  have low := em.low
  have off5 := em.off
  have htab := em.tab
  obtain ⟨dc0, ch1, ch2, ck1, ck2, ctk, nc0, hc1, hc2⟩ := (ok.chars c0 (hm9 c0 (.head _))).tl
  obtain ⟨dlo, lt1, lt2, lt3, lt4, hlo, hdlo⟩ := (ok.locs c0 (hm9 c0 (.head _))).tl
  have o1 := ok.o1
  have o2 := ok.o2
  have o3 := ok.o3
  have o4 := ok.o4
  have o5 := ok.o5
  have off6 : OwnOff rest [225, κ.tb, κ.pb, κ.ct, κ.it] := fun p hp b hb => by
    rcases List.mem_cons.mp hb with rfl | hb
    · exact off5 p hp 225 (.head _)
    · exact ok.off p (.tail _ hp) b hb
  clear off5
  refine wpAny_call ?_
  k_dflt k_enter
  rename Frag.In _ _ => X9
  have C9 := codeHd_of_K (c := 229) (P := 225) X9 (by kernel_rfl)
  rename Top _ _ _ _ _ _ => T9
  (repeat' (first | ((k_here; (with_reducible show wpAny _ _ (subscriptTail _ _ (Value.ref _) (Value.int _ _)) _ _ _); k_dflt (refine' itemL ?N ?m ?a ?b ?x ?_; (case N => k_asm); (case m => k_mem); (case a => decide); (case b => decide); (case x => (simp only [List.map_cons, List.getElem?_toArray, Int.toNat_zero, List.getElem?_cons_zero]; exact rfl)); k_whole))) | ((k_here; (with_reducible show wpAny _ _ (call (Value.builtin "list.clear") _) _ _ _); k_dflt (refine' clearL ?F ?N ?i ?U ?z ?_; (case F => k_asm); (case N => k_asm); (case U => k_upd); (case i => first | assumption | simp); (case z => (try simp only [List.length_map]); (first | decide | omega)); k_whole; intro h' F' N'))) | ((k_here; (with_reducible show wpAny _ _ (getMethod (Value.ref _) (PySem.Str.ofString "clear") _) _ _ _); k_dflt (refine' methodL ?N ?m PySem.F.slot_list_clear PySem.F.type_list_clear ?_; (case N => k_asm); (case m => k_mem)))) | ((k_here; (with_reducible show wpAny _ _ (getMethod (Value.ref _) (PySem.Str.ofString "insert") _) _ _ _); k_dflt (refine' methodL ?N ?m PySem.F.slot_list_insert PySem.F.type_list_insert ?_; (case N => k_asm); (case m => k_mem)))) | (k_unfold; (try dsimp only)) | (k_end; kc_close) | walk1 | (dsimp only; walk1) | (leave1; walk_say "STEP leave1"; (try dsimp only)) | fail "no step"))
  rename Fr _ _ _ _ => F9
  refine genexp_L F9 T9 C9 rfl rfl rfl rfl rfl (by decide) rfl rfl rfl ?_ ?_ ?_
  · ktr_room
  · (repeat' (first | ((k_here; (with_reducible show wpAny _ _ (subscriptTail _ _ (Value.ref _) (Value.int _ _)) _ _ _); k_dflt (refine' itemL ?N ?m ?a ?b ?x ?_; (case N => k_asm); (case m => k_mem); (case a => decide); (case b => decide); (case x => (simp only [List.map_cons, List.getElem?_toArray, Int.toNat_zero, List.getElem?_cons_zero]; exact rfl)); k_whole))) | ((k_here; (with_reducible show wpAny _ _ (call (Value.builtin "list.clear") _) _ _ _); k_dflt (refine' clearL ?F ?N ?i ?U ?z ?_; (case F => k_asm); (case N => k_asm); (case U => k_upd); (case i => first | assumption | simp); (case z => (try simp only [List.length_map]); (first | decide | omega)); k_whole; intro h' F' N'))) | ((k_here; (with_reducible show wpAny _ _ (getMethod (Value.ref _) (PySem.Str.ofString "clear") _) _ _ _); k_dflt (refine' methodL ?N ?m PySem.F.slot_list_clear PySem.F.type_list_clear ?_; (case N => k_asm); (case m => k_mem)))) | ((k_here; (with_reducible show wpAny _ _ (getMethod (Value.ref _) (PySem.Str.ofString "insert") _) _ _ _); k_dflt (refine' methodL ?N ?m PySem.F.slot_list_insert PySem.F.type_list_insert ?_; (case N => k_asm); (case m => k_mem)))) | (k_unfold; (try dsimp only)) | (k_end; kc_close) | walk1 | (dsimp only; walk1) | (leave1; walk_say "STEP leave1"; (try dsimp only)) | fail "no step"))
    rename Fr _ _ _ _ => F9
    rename News _ _ _ _ => N9
    refine ⟨κ.ct, _, nct9, _, ps, _, (fun i y => ∃ c u, (c0 :: cr)[i]? = some c ∧ y = Value.str ⟨#[κ.sg c]⟩ u), rfl, F9, N9, by k_mem, by k_updF, htab, ?_, ?_⟩
    · intro D code A' E' i v t m₂ hA hD hU hi hn hm hk
      have N8 := N9
      obtain ⟨c, hc, hv⟩ : ∃ c, (c0 :: cr)[i]? = some c ∧ v = .ref c := by
        have := hi
        simp only [List.getElem?_toArray, List.getElem?_map, Option.map_eq_some_iff] at this
        obtain ⟨c, hc, e⟩ := this
        exact ⟨c, hc, e.symm⟩
      subst hv
      obtain ⟨dc, ch1, ch2, ck1, ck2, ctk, nc, hc1, hc2⟩ := ok.chars c (hm9 c (List.mem_of_getElem? hc))
      exact wpAny_mono (genexp_elt (F := (c0 :: cr)[i]? = some c) X9 F9 N9 (by k_mem) (by k_mem) (by k_mem) hn hm hk hc rfl rfl) (fun y s₃ ⟨⟨hF, u, hy⟩, hK⟩ => ⟨⟨c, u, hF, hy⟩, hK⟩) (fun _ _ e => e)
    · intro a h₅ tk gs ps' hgb ht' F₅ N₅ G₅
      have hlt := @newsLt _ _ _ _ N9
      have hL9 := F9.ns.lt
      have hA9 := Nat.le_trans F9.above (Nat.le_of_lt hL9)
      clear F9 N9
      (repeat' (first | ((k_here; (with_reducible show wpAny _ _ (subscriptTail _ _ (Value.ref _) (Value.int _ _)) _ _ _); k_dflt (refine' itemL ?N ?m ?a ?b ?x ?_; (case N => k_asm); (case m => k_mem); (case a => decide); (case b => decide); (case x => (simp only [List.map_cons, List.getElem?_toArray, Int.toNat_zero, List.getElem?_cons_zero]; exact rfl)); k_whole))) | ((k_here; (with_reducible show wpAny _ _ (call (Value.builtin "list.clear") _) _ _ _); k_dflt (refine' clearL ?F ?N ?i ?U ?z ?_; (case F => k_asm); (case N => k_asm); (case U => k_upd); (case i => first | assumption | simp); (case z => (try simp only [List.length_map]); (first | decide | omega)); k_whole; intro h' F' N'))) | ((k_here; (with_reducible show wpAny _ _ (getMethod (Value.ref _) (PySem.Str.ofString "clear") _) _ _ _); k_dflt (refine' methodL ?N ?m PySem.F.slot_list_clear PySem.F.type_list_clear ?_; (case N => k_asm); (case m => k_mem)))) | ((k_here; (with_reducible show wpAny _ _ (getMethod (Value.ref _) (PySem.Str.ofString "insert") _) _ _ _); k_dflt (refine' methodL ?N ?m PySem.F.slot_list_insert PySem.F.type_list_insert ?_; (case N => k_asm); (case m => k_mem)))) | (k_unfold; (try dsimp only)) | (k_end; kc_close) | walk1 | (dsimp only; walk1) | (leave1; walk_say "STEP leave1"; (try dsimp only)) | fail "no step"))
      refine join_L F₅ N₅ G₅ hL9 (hlt rfl) hA9 (fun j => match (c0 :: cr)[j]? with | some c => ⟨#[κ.sg c]⟩ | none => ⟨#[]⟩) ?_ ?_ ?_ ?_
      · rintro j v ⟨c, u, hc, rfl⟩; exact ⟨u, by simp only [hc]⟩
      · exact join_ok κ.sg (c0 :: cr) (by omega)
      · intro h₆ gn₆ tk₆ t₆ F₆ N₆ hG₆
        have G6 := GensUp.of_push hgb hG₆
        clear hG₆ G₅ N₅ F₅ hlt hL9 hA9
        rw [join_signs]
        (repeat' (first | ((k_here; (with_reducible show wpAny _ _ (subscriptTail _ _ (Value.ref _) (Value.int _ _)) _ _ _); k_dflt (refine' itemL ?N ?m ?a ?b ?x ?_; (case N => k_asm); (case m => k_mem); (case a => decide); (case b => decide); (case x => (simp only [List.map_cons, List.getElem?_toArray, Int.toNat_zero, List.getElem?_cons_zero]; exact rfl)); k_whole))) | ((k_here; (with_reducible show wpAny _ _ (call (Value.builtin "list.clear") _) _ _ _); k_dflt (refine' clearL ?F ?N ?i ?U ?z ?_; (case F => k_asm); (case N => k_asm); (case U => k_upd); (case i => first | assumption | simp); (case z => (try simp only [List.length_map]); (first | decide | omega)); k_whole; intro h' F' N'))) | ((k_here; (with_reducible show wpAny _ _ (getMethod (Value.ref _) (PySem.Str.ofString "clear") _) _ _ _); k_dflt (refine' methodL ?N ?m PySem.F.slot_list_clear PySem.F.type_list_clear ?_; (case N => k_asm); (case m => k_mem)))) | ((k_here; (with_reducible show wpAny _ _ (getMethod (Value.ref _) (PySem.Str.ofString "insert") _) _ _ _); k_dflt (refine' methodL ?N ?m PySem.F.slot_list_insert PySem.F.type_list_insert ?_; (case N => k_asm); (case m => k_mem)))) | (k_unfold; (try dsimp only)) | (k_end; kc_close) | walk1 | (dsimp only; walk1) | (leave1; walk_say "STEP leave1"; (try dsimp only)) | fail "no step"))
        rename Fr _ _ _ _ => kF9
        rename News _ _ _ _ => kN9
        simp only [List.push_toArray, List.nil_append] at kN9
        exact emit_end em few9 hs9 ht' hRest9 (by assumption) (by assumption) kN9 (fun l' hp hN => hret _ _ _ _ _ ⟨rfl, hp⟩ G6 kF9 hN)
      · simp only [List.size_toArray, List.length_map]; exact fit_of (by omega)
  · intro _; with_unfolding_all rfl
end
section
open PySem PySem.W PyProof.Rows PySem.Calls
set_option maxRecDepth 100000
set_option maxHeartbeats 8000000


theorem app_ne_r {α : Type} {a b : List α} (h : b ≠ []) : a ++ b ≠ [] := fun e => h (List.append_eq_nil_iff.mp e).2
theorem app_ne_l {α : Type} {a b : List α} (h : a ≠ []) : a ++ b ≠ [] := fun e => h (List.append_eq_nil_iff.mp e).1
/-- emit, the first sign taken found out of the list -/
theorem emit_ok' {w : World} {mean : ExcName → Option Value} {mg mb : Str → Option Value} {κ : LxK} {rest : List (Addr × Obj)} {ps : Array Value} (em : κ.Em ps rest) {cts rem : List Addr} {l : List (Addr × Obj)} (hat9 : κ.At ((225, tabObj ps) :: rest) [] cts rem l) (hcts : cts ≠ []) {ty : Str} {tyt : Tok} :
    CallOkG w mean mg mb 230 [.ref κ.x, .str ty tyt] l (fun v l' => v = .none ∧ ∃ ps' new tok c0 cr, cts = c0 :: cr ∧ κ.New ps' new rest ∧ κ.At ((225, tabObj ps') :: (new ++ rest)) [.ref tok] [] rem l' ∧ TokIn new tok ty ⟨(cts.map κ.sg).toArray⟩ (κ.lo c0)) 8 80 := by
  cases cts with
  | nil => exact absurd rfl hcts
  | cons c0 cr =>
    intro dp un gd cn csn csg csc csm a ccd cl9 outer A₀ base h₀ L m s Q E B F X N T hd hu hret
    refine emit_ok em hat9 rfl _ _ _ _ _ _ _ _ _ _ _ _ _ _ _ _ _ _ _ _ B F X N T hd hu ?_
    rintro v l' h' gn' tk' ⟨hv, ps', new, tok, h1, h2, h3⟩
    exact hret v l' h' gn' tk' ⟨hv, ps', new, tok, c0, cr, rfl, h1, h2, h3⟩
theorem ret_em {κ : LxK} {rest : List (Addr × Obj)} {cts rem : List Addr} {h₀ : Heap} {L : Addr} {m : Str → Option Value} {R : Value → Heap → Array GenState → Nat → Prop} {G : Array GenState → Prop} {ty tx : Str}
    (k : ∀ (h' : Heap) (gn' : Array GenState) (tk' : Nat) (ps' : Array Value) (new : List (Addr × Obj)) (tok c0 : Addr) (cr : List Addr) (r1 : List (Addr × Obj)) (ntb : Nat) (pbs : List Value) (npb nct : Nat) (oit : Obj), r1 = new ++ rest → cts = c0 :: cr → κ.New ps' new rest → κ.Strm pbs oit rem → κ.At ((225, tabObj ps') :: r1) [.ref tok] [] rem ((κ.x, instObj 390 κ.dx) :: (κ.dx, lxDict κ.h1 κ.h2 κ.h3 κ.h4 κ.h5 κ.t1 κ.t2 κ.t3 κ.t4 κ.t5 κ.tb κ.pb κ.ct κ.it κ.co κ.ndx) :: (κ.tb, PySem.W.listOf ([.ref tok]).toArray ntb) :: (κ.pb, PySem.W.listOf pbs.toArray npb) :: (κ.ct, PySem.W.listOf ((([] : List Addr)).map Value.ref).toArray nct) :: (κ.it, oit) :: (225, tabObj ps') :: r1) → TokIn new tok ty tx (κ.lo c0) → G gn' → Fr h₀ L h' m → News h₀ L h' ((κ.x, instObj 390 κ.dx) :: (κ.dx, lxDict κ.h1 κ.h2 κ.h3 κ.h4 κ.h5 κ.t1 κ.t2 κ.t3 κ.t4 κ.t5 κ.tb κ.pb κ.ct κ.it κ.co κ.ndx) :: (κ.tb, PySem.W.listOf ([.ref tok]).toArray ntb) :: (κ.pb, PySem.W.listOf pbs.toArray npb) :: (κ.ct, PySem.W.listOf ((([] : List Addr)).map Value.ref).toArray nct) :: (κ.it, oit) :: (225, tabObj ps') :: r1) → R .none h' gn' tk') :
    ∀ v led' h' gn' tk', (v = .none ∧ ∃ ps' new tok c0 cr, cts = c0 :: cr ∧ κ.New ps' new rest ∧ κ.At ((225, tabObj ps') :: (new ++ rest)) [.ref tok] [] rem led' ∧ TokIn new tok ty tx (κ.lo c0)) → G gn' → Fr h₀ L h' m → News h₀ L h' led' → R v h' gn' tk' := by
  rintro v l h' gn' tk' ⟨rfl, ps', new, tok, c0, cr, hcr, nw, hat, tin⟩ hG F N
  obtain ⟨⟨ntb, pbs, npb, nct, oit, rfl, hs⟩, _⟩ := id hat
  exact k h' gn' tk' ps' new tok c0 cr _ ntb pbs npb nct oit rfl hcr nw hs hat tin hG F N
theorem dot_only {n : Nat} (h : n ∈ (Str.ofString ".").cps.toList) : n = 46 := by
  have e : (Str.ofString ".").cps.toList = [46] := by decide +kernel
  rw [e] at h
  exact List.mem_singleton.mp h
/-- accept where the sign to come is another -/
theorem accept_dot {w : World} {mean : ExcName → Option Value} {mg mb : Str → Option Value} {κ : LxK} {rest : List (Addr × Obj)} (ok : κ.Ok rest) {tbs : List Value} {cts rem : List Addr} {l : List (Addr × Obj)} (hat : κ.At rest tbs cts rem l) (hno : ∀ c r, rem = c :: r → κ.sg c ≠ 46) {vt : Tok} :
    CallOk w mean mg mb 244 [.ref κ.x, .str (Str.ofString ".") vt] l (fun v l' => v = .bool false ∧ κ.At rest tbs cts rem l') 6 60 := by
  refine (accept_ok ok hat).mono ?_
  rintro v l ⟨b, e, r, hA, rfl, h⟩
  cases hA with
  | eof => exact ⟨rfl, by simpa using h⟩
  | yes c r hc => exact absurd (dot_only hc) (hno c r rfl)
  | no c r _ => exact ⟨rfl, by simpa using h⟩
/-- the mark of a number and the signs its digits are of -/
inductive Lex1 (sg : Addr → Nat) (rem : List Addr) : List Addr → List Addr → Str → Prop
  | x {b1 b2 : Bool} {e1 r1 e2 r2 : List Addr} : Acc sg (Str.ofString "0") b1 rem e1 r1 → b1 = true → Acc sg (Str.ofString "xX") b2 r1 e2 r2 → b2 = true → Lex1 sg rem (([] ++ e1) ++ e2) r2 (Str.ofString "0123456789abcdefABCDEF")
  | b {b1 b2 b3 : Bool} {e1 r1 e2 r2 e3 r3 : List Addr} : Acc sg (Str.ofString "0") b1 rem e1 r1 → b1 = true → Acc sg (Str.ofString "xX") b2 r1 e2 r2 → b2 = false → Acc sg (Str.ofString "bB") b3 r2 e3 r3 → b3 = true → Lex1 sg rem ((([] ++ e1) ++ e2) ++ e3) r3 (Str.ofString "01")
  | o {b1 b2 b3 : Bool} {e1 r1 e2 r2 e3 r3 : List Addr} : Acc sg (Str.ofString "0") b1 rem e1 r1 → b1 = true → Acc sg (Str.ofString "xX") b2 r1 e2 r2 → b2 = false → Acc sg (Str.ofString "bB") b3 r2 e3 r3 → b3 = false → Lex1 sg rem ((([] ++ e1) ++ e2) ++ e3) r3 (Str.ofString "01234567")
  | n {b1 : Bool} {e1 r1 : List Addr} : Acc sg (Str.ofString "0") b1 rem e1 r1 → b1 = false → Lex1 sg rem ([] ++ e1) r1 (Str.ofString "0123456789")
theorem lex_ne {sg : Addr → Nat} {rem r' : List Addr} {c0 : Addr} (hf : rem = c0 :: r') (hd : sg c0 ∈ (Str.ofString "0123456789").cps.toList) {b : Bool} {e r : List Addr} (hA : Acc sg (Str.ofString "0") b rem e r) :
    (b = true → e ≠ []) ∧ (b = false → (r.takeWhile fun c => decide (sg c ∈ (Str.ofString "0123456789").cps.toList)) ≠ []) := by
  cases hA with
  | eof => cases hf
  | yes c r _ => exact ⟨(fun _ e => nomatch e), fun e => nomatch e⟩
  | no c r _ =>
    cases hf
    exact ⟨(fun e => nomatch e), fun _ => by simp only [List.takeWhile_cons, decide_eq_true hd]; exact fun e => nomatch e⟩
theorem Lex1.ne {sg : Addr → Nat} {rem e r r' : List Addr} {vs : Str} {c0 : Addr} (hf : rem = c0 :: r') (hd : sg c0 ∈ (Str.ofString "0123456789").cps.toList) (h : Lex1 sg rem e r vs) : e ++ (r.takeWhile fun c => decide (sg c ∈ vs.cps.toList)) ≠ [] := by
  cases h with
  | x h1 e1 _ _ => exact app_ne_l (app_ne_l (app_ne_r ((lex_ne hf hd h1).1 e1)))
  | b h1 e1 _ _ _ _ => exact app_ne_l (app_ne_l (app_ne_l (app_ne_r ((lex_ne hf hd h1).1 e1))))
  | o h1 e1 _ _ _ _ => exact app_ne_l (app_ne_l (app_ne_l (app_ne_r ((lex_ne hf hd h1).1 e1))))
  | n h1 e1 => exact app_ne_r ((lex_ne hf hd h1).2 e1)
/-- where lex_number stands once the mark is read -/
noncomputable def LexMid (κ : LxK) (ps : Array Value) (rest : List (Addr × Obj)) (rem : List Addr) (s : Shared) (gq : Heap) (Lq : Addr) (s' : Shared) : Prop :=
  ∃ e r vs t h' tk' l' m', s' = { s with heap := h', toks := tk' } ∧ Lex1 κ.sg rem e r vs ∧ κ.At ((225, tabObj ps) :: rest) [] e r l' ∧ Fr gq Lq h' m' ∧ News gq Lq h' l' ∧ m' (Str.ofString "number_chars") = some (.str vs t) ∧ m' (Str.ofString "self") = some (.ref κ.x)
/-- what lex_number takes -/
noncomputable def LexNum (sg : Addr → Nat) (rem cts r : List Addr) : Prop :=
  ∃ e1 r1 vs b2 e2 r2 b3 e3 r3 b4 e4, Lex1 sg rem e1 r1 vs ∧ Acc sg (Str.ofString "LlUu") b2 (r1.dropWhile fun c => decide (sg c ∈ vs.cps.toList)) e2 r2 ∧ Acc sg (Str.ofString "LlUu") b3 r2 e3 r3 ∧ Acc sg (Str.ofString "LlUu") b4 r3 e4 r ∧
    cts = e1 ++ (r1.takeWhile fun c => decide (sg c ∈ vs.cps.toList)) ++ e2 ++ e3 ++ e4
theorem lexnum_mk {sg : Addr → Nat} {rem e1 r1 : List Addr} {vs : Str} {b2 b3 b4 : Bool} {e2 r2 e3 r3 e4 r : List Addr} (h1 : Lex1 sg rem e1 r1 vs) (h2 : Acc sg (Str.ofString "LlUu") b2 (r1.dropWhile fun c => decide (sg c ∈ vs.cps.toList)) e2 r2) (h3 : Acc sg (Str.ofString "LlUu") b3 r2 e3 r3) (h4 : Acc sg (Str.ofString "LlUu") b4 r3 e4 r) :
    LexNum sg rem (e1 ++ (r1.takeWhile fun c => decide (sg c ∈ vs.cps.toList)) ++ e2 ++ e3 ++ e4) r := ⟨_, _, _, _, _, _, _, _, _, _, _, h1, h2, h3, h4, rfl⟩
theorem Acc.split {sg : Addr → Nat} {vs : Str} {b : Bool} {rem e r : List Addr} (h : Acc sg vs b rem e r) : rem = e ++ r := by cases h <;> rfl
theorem Lex1.split {sg : Addr → Nat} {rem e r : List Addr} {vs : Str} (h : Lex1 sg rem e r vs) : rem = e ++ r := by
  cases h with
  | x h1 _ h2 _ => rw [h1.split, h2.split]; simp
  | b h1 _ h2 _ h3 _ => rw [h1.split, h2.split, h3.split]; simp
  | o h1 _ h2 _ h3 _ => rw [h1.split, h2.split, h3.split]; simp
  | n h1 _ => rw [h1.split]; simp
theorem LexNum.split {sg : Addr → Nat} {rem cts r : List Addr} (h : LexNum sg rem cts r) : rem = cts ++ r := by
  obtain ⟨e1, r1, vs, b2, e2, r2, b3, e3, r3, b4, e4, h1, h2, h3, h4, rfl⟩ := h
  have e := List.takeWhile_append_dropWhile (p := fun c => decide (sg c ∈ vs.cps.toList)) (l := r1)
  rw [h2.split, h3.split, h4.split] at e
  rw [h1.split]
  conv => lhs; rw [← e]
  simp
theorem LexNum.first {sg : Addr → Nat} {rem cts r : List Addr} {c0 c1 : Addr} {r' cr : List Addr} (h : LexNum sg rem cts r) (hf : rem = c0 :: r') (hc : cts = c1 :: cr) : c1 = c0 := by
  have e := h.split
  rw [hf, hc] at e
  exact (List.cons.inj e).1.symm



theorem lex_ok {w : World} {mean : ExcName → Option Value} {mg mb : Str → Option Value} {κ : LxK} {rest : List (Addr × Obj)} {ps : Array Value} (em : κ.Em ps rest) {rem : List Addr} {l : List (Addr × Obj)} (hat9 : κ.At ((225, tabObj ps) :: rest) [] [] rem l)
    {c0 : Addr} {r' : List Addr} (hfirst : rem = c0 :: r') (hdigit : κ.sg c0 ∈ (Str.ofString "0123456789").cps.toList) (hdot : ∀ e r vs, Lex1 κ.sg rem e r vs → ∀ c t, (r.dropWhile fun c => decide (κ.sg c ∈ vs.cps.toList)) = c :: t → κ.sg c ≠ 46) :
    CallOkG w mean mg mb 338 [.ref κ.x] l (fun v l' => ∃ cts r ps' new tok, LexNum κ.sg rem cts r ∧ κ.New ps' new rest ∧ κ.At ((225, tabObj ps') :: (new ++ rest)) [.ref tok] [] r l' ∧ TokIn new tok (Str.ofString "NUMBER") ⟨(cts.map κ.sg).toArray⟩ (κ.lo c0)) 10 100 := by
  intro dp un gd cn csn csg csc csm a ccd cl9 outer A₀ base h₀ L m s Q E B F X N T hd hu hret
  have ok9 := em.ok
  refine hideG fun H9 k9 => ?_
  obtain ⟨⟨ntb9, pbs9, npb9, nct9, oit9, e9l, hs9⟩, few9, hm9⟩ := id hat9
  subst e9l
  refine k9 ?_
  clear k9
  unfold LxK.led at hat9 N
  have low9 := em.low
  have o1 := ok9.o1
  have o2 := ok9.o2
  have o3 := ok9.o3
  have o4 := ok9.o4
  have o5 := ok9.o5
  refine wpAny_call ?_
  k_dflt k_enter
  walk1
  walk1
  rename_i gq Lq hq FGq F1 N1 B1 X1 T1
  refine wpAny_mono (Q := fun f s' => f = .next ∧ LexMid κ ps rest rem s gq Lq s') ?first ?tail (fun _ _ e => e)
  case first =>
    (repeat' (first | ((k_here; (with_reducible show wpAny _ _ (eval (Expr.Name _ _) _) _ _ _); k_dflt (refine' nameX_L ?F ?v ?_ ?a ?b; (case a => rfl); (case b => rfl); (case F => k_asm); (case v => first | assumption | exact rfl); k_whole))) | ((k_here; (with_reducible show wpAny _ _ (call (Value.ref _) _) _ _ _); k_dflt (refine' CallOkG.use (emit_ok' ?a0 ?a1 ?a2) ?B ?F ?X ?N ?T ?d ?u (ret_em ?_); (case N => k_asm); (case F => k_asm); (case B => k_asm); (case X => k_asm); (case T => k_asm); (case a0 => assumption); (case a1 => assumption); (case a2 => repeat (first | exact Lex1.ne hfirst hdigit (by assumption) | refine app_ne_l ?_)); (case d => ktr_room); (case u => ktr_units); k_whole); intro h9 gn9 tk9 ps9 new9 tok9 c09 cr9 rest ntb9 pbs9 npb9 nct9 oit9 hg9 hcr9 nw9 hs9 hat9 tin9 G9 F9 N9; (try dsimp only); (try k_sweep); (try k_fold))) | ((k_here; (with_reducible show wpAny _ _ (call (Value.ref _) _) _ _ _); k_dflt (refine' CallOk.use (accept_dot ?a0 ?a1 ?a2) ?B ?F ?X ?N ?T ?d ?u (ret_at ?_); (case N => k_asm); (case F => k_asm); (case B => k_asm); (case X => k_asm); (case T => k_asm); (case a0 => assumption); (case a1 => assumption); (case a2 => exact hdot _ _ _ (by assumption)); (case d => ktr_room); (case u => ktr_units); k_whole); intro h9 tk9 ntb9 pbs9 npb9 nct9 oit9 hs9 hat9 F9 N9; (try dsimp only); (try k_sweep); (try k_fold))) | ((k_here; (with_reducible show wpAny _ _ (call (Value.ref _) _) _ _ _); k_dflt (refine' CallOk.use (accept_run_ok ?a0 ?a1) ?B ?F ?X ?N ?T ?d ?u (ret_at ?_); (case N => k_asm); (case F => k_asm); (case B => k_asm); (case X => k_asm); (case T => k_asm); (case a0 => assumption); (case a1 => assumption); (case d => ktr_room); (case u => ktr_units); k_whole); intro h9 tk9 ntb9 pbs9 npb9 nct9 oit9 hs9 hat9 F9 N9; (try dsimp only); (try k_sweep); (try k_fold))) | ((k_here; (with_reducible show wpAny _ _ (call (Value.ref _) _) _ _ _); k_dflt (refine' CallOk.use (accept_ok ?a0 ?a1) ?B ?F ?X ?N ?T ?d ?u (ret_acc ?_); (case N => k_asm); (case F => k_asm); (case B => k_asm); (case X => k_asm); (case T => k_asm); (case a0 => assumption); (case a1 => assumption); (case d => ktr_room); (case u => ktr_units); k_whole); intro h9 tk9 b9 e9 r9 ntb9 pbs9 npb9 nct9 oit9 hA9 hs9 hat9 F9 N9; (try dsimp only); (try k_sweep); (try k_fold))) | (k_unfold; (try dsimp only)) | (k_end; kc_close) | walk1 | (dsimp only; walk1) | (leave1; walk_say "STEP leave1"; (try dsimp only)) | fail "no step"))
    all_goals (rename Fr _ _ _ _ => F8; rename News _ _ _ _ => N8; rename LxK.At _ _ _ _ _ _ => hat8)
    all_goals refine ⟨_, _, _, _, _, _, _, _, rfl, ?_, hat8, F8, N8, rfl, rfl⟩
    all_goals first
      | exact Lex1.x (by assumption) (by assumption) (by assumption) (by assumption)
      | exact Lex1.b (by assumption) (by assumption) (by assumption) (by assumption) (by assumption) (by assumption)
      | exact Lex1.o (by assumption) (by assumption) (by assumption) (by assumption) (by assumption) (by assumption)
      | exact Lex1.n (by assumption) (by assumption)
  case tail =>
    clear hat9 N1 F1
    intro f s' P9
    refine hideW f s' fun H9 k9 => ?_
    obtain ⟨rfl, e, r, vs, t, h2, tk2, l2, m2, rfl, hl1, hat2, F2, N2, em1, em2⟩ := P9
    obtain ⟨⟨ntb8, pbs8, npb8, nct8, oit8, e8l, hs8⟩, few8, hm8⟩ := id hat2
    subst e8l
    refine k9 _ _ ?_
    clear k9
    dsimp only
    unfold LxK.led at hat2 N2
    (repeat' (first | ((k_here; (with_reducible show wpAny _ _ (eval (Expr.Name _ _) _) _ _ _); k_dflt (refine' nameX_L ?F ?v ?_ ?a ?b; (case a => rfl); (case b => rfl); (case F => k_asm); (case v => first | assumption | exact rfl); k_whole))) | ((k_here; (with_reducible show wpAny _ _ (call (Value.ref _) _) _ _ _); k_dflt (refine' CallOkG.use (emit_ok' ?a0 ?a1 ?a2) ?B ?F ?X ?N ?T ?d ?u (ret_em ?_); (case N => k_asm); (case F => k_asm); (case B => k_asm); (case X => k_asm); (case T => k_asm); (case a0 => assumption); (case a1 => assumption); (case a2 => repeat (first | exact Lex1.ne hfirst hdigit (by assumption) | refine app_ne_l ?_)); (case d => ktr_room); (case u => ktr_units); k_whole); intro h9 gn9 tk9 ps9 new9 tok9 c09 cr9 rest ntb9 pbs9 npb9 nct9 oit9 hg9 hcr9 nw9 hs9 hat9 tin9 G9 F9 N9; (try dsimp only); (try k_sweep); (try k_fold))) | ((k_here; (with_reducible show wpAny _ _ (call (Value.ref _) _) _ _ _); k_dflt (refine' CallOk.use (accept_dot ?a0 ?a1 ?a2) ?B ?F ?X ?N ?T ?d ?u (ret_at ?_); (case N => k_asm); (case F => k_asm); (case B => k_asm); (case X => k_asm); (case T => k_asm); (case a0 => assumption); (case a1 => assumption); (case a2 => exact hdot _ _ _ (by assumption)); (case d => ktr_room); (case u => ktr_units); k_whole); intro h9 tk9 ntb9 pbs9 npb9 nct9 oit9 hs9 hat9 F9 N9; (try dsimp only); (try k_sweep); (try k_fold))) | ((k_here; (with_reducible show wpAny _ _ (call (Value.ref _) _) _ _ _); k_dflt (refine' CallOk.use (accept_run_ok ?a0 ?a1) ?B ?F ?X ?N ?T ?d ?u (ret_at ?_); (case N => k_asm); (case F => k_asm); (case B => k_asm); (case X => k_asm); (case T => k_asm); (case a0 => assumption); (case a1 => assumption); (case d => ktr_room); (case u => ktr_units); k_whole); intro h9 tk9 ntb9 pbs9 npb9 nct9 oit9 hs9 hat9 F9 N9; (try dsimp only); (try k_sweep); (try k_fold))) | ((k_here; (with_reducible show wpAny _ _ (call (Value.ref _) _) _ _ _); k_dflt (refine' CallOk.use (accept_ok ?a0 ?a1) ?B ?F ?X ?N ?T ?d ?u (ret_acc ?_); (case N => k_asm); (case F => k_asm); (case B => k_asm); (case X => k_asm); (case T => k_asm); (case a0 => assumption); (case a1 => assumption); (case d => ktr_room); (case u => ktr_units); k_whole); intro h9 tk9 b9 e9 r9 ntb9 pbs9 npb9 nct9 oit9 hA9 hs9 hat9 F9 N9; (try dsimp only); (try k_sweep); (try k_fold))) | (k_unfold; (try dsimp only)) | (k_end; kc_close) | walk1 | (dsimp only; walk1) | (leave1; walk_say "STEP leave1"; (try dsimp only)) | fail "no step"))
    rename Fr _ _ _ _ => F8
    rename News _ _ _ _ => N8
    rename LxK.At _ _ _ _ _ _ => hat8
    rename LxK.New _ _ _ _ => nw8
    rename TokIn _ _ _ _ _ => tin8
    rename GensUp _ _ => G8
    have hL := lexnum_mk hl1 (by assumption) (by assumption) (by assumption)
    have e8 := hL.first hfirst hcr9
    subst e8
    subst hg9
    exact hret _ _ _ _ _ ⟨_, _, _, _, _, hL, nw8, hat8, tin8⟩ G8 F8 (fun p hp => N8 p (.tail _ hp))
end
section
open PySem PySem.W PyProof.Rows PySem.Calls
set_option maxRecDepth 100000
set_option maxHeartbeats 800000

theorem CallOk.lift {w : World} {mean : ExcName → Option Value} {mg mb : Str → Option Value} {f : Addr} {args : List Value} {led : List (Addr × Obj)} {Post Post' : Value → List (Addr × Obj) → Prop} {D U D' U' : Nat}
    (C : CallOk w mean mg mb f args led Post D U) (h : ∀ v l, Post v l → Post' v l) (h1 : D ≤ D' := by decide) (h2 : U ≤ U' := by decide) : CallOk w mean mg mb f args led Post' D' U' :=
  fun _ _ _ _ _ _ _ _ _ _ _ _ _ _ _ _ _ _ _ _ B F X N T hd hu ret => C _ _ _ _ _ _ _ _ _ _ _ _ _ _ _ _ _ _ _ _ B F X N T (by omega) (by omega) fun v l h' tk' p => ret v l h' tk' (h v l p)

/-- the lexer's ledger right behind next_char -/
structure LxK.AtL (κ : LxK) (rest : List (Addr × Obj)) (tbs : List Value) (cts rem : List Addr) (l : List (Addr × Obj)) : Prop where
  ex : ∃ ntb npb nct oit i, l = κ.led rest tbs ntb [] npb (cts.map Value.ref) nct oit ∧ LiveIt oit κ.cl i ∧ rem = κ.cs.drop i
  few : cts.length + rem.length ≤ 900
  mem : ∀ c ∈ cts, c ∈ κ.cs
theorem LxK.AtL.at {κ : LxK} {rest : List (Addr × Obj)} {tbs : List Value} {cts rem : List Addr} {l : List (Addr × Obj)} (h : κ.AtL rest tbs cts rem l) : κ.At rest tbs cts rem l := by
  obtain ⟨⟨ntb, npb, nct, oit, i, e, hv, rfl⟩, few, hm⟩ := h
  exact ⟨⟨ntb, [], npb, nct, oit, e, .live i hv⟩, few, hm⟩
theorem next_ok {w : World} {mean : ExcName → Option Value} {mg mb : Str → Option Value} {κ : LxK} {rest : List (Addr × Obj)} (ok : κ.Ok rest) {tbs : List Value} {cts rem : List Addr} {c : Addr} {l : List (Addr × Obj)} (hat : κ.At rest tbs cts (c :: rem) l) :
    CallOk w mean mg mb 216 [.ref κ.x] l (fun v l' => v = .ref c ∧ κ.AtL rest tbs (cts ++ [c]) rem l') 6 60 := by
  have hlen : (cts.map Value.ref).length ≤ 1000 := by have := hat.few; rw [List.length_map]; omega
  have hcm := hat.rem c (.head _)
  obtain ⟨dc, ch1, ch2, ck1, ck2, ctk, nc, hc, hdc⟩ := ok.chars c hcm
  obtain ⟨⟨ntb, pbs, npb, nct, oit, rfl, hs⟩, few, hm⟩ := hat
  have hm' : ∀ d ∈ cts ++ [c], d ∈ κ.cs := fun d hd' => by
    rcases List.mem_append.mp hd' with h | h; exact hm d h; rw [List.mem_singleton.mp h]; exact hcm
  have few' : (cts ++ [c]).length + rem.length ≤ 900 := by simp only [List.length_append, List.length_cons, List.length_nil] at few ⊢; omega
  generalize hrem : c :: rem = cr at hs
  cases hs with
  | dead hv => cases hrem
  | back i c' hv _ =>
    cases hrem
    refine CallOk.lift (next_pb ok.o1 ok.o2 ok.o3 ok.o4 ok.o5 ok.off hlen hc hdc) ?_
    rintro v l ⟨rfl, rfl⟩
    exact ⟨rfl, ⟨⟨_, _, _, _, i, by rw [List.map_append]; rfl, hv, rfl⟩, few', hm'⟩⟩
  | live i hv =>
    have hx : κ.cs[i]? = some c := by
      have := congrArg List.head? hrem
      simpa [List.head?_drop] using this.symm
    have hx' : (κ.cs.map Value.ref).toArray[i]? = some (.ref c) := by simp [hx]
    obtain ⟨hil, hic⟩ := List.getElem?_eq_some_iff.mp hx
    have hdrop : κ.cs.drop i = c :: κ.cs.drop (i + 1) := by rw [← hic]; exact List.drop_eq_getElem_cons hil
    have hre : rem = κ.cs.drop (i + 1) := by rw [hdrop] at hrem; exact (List.cons.inj hrem).2
    refine CallOk.lift (next_live ok.o1 ok.o2 ok.o3 ok.o4 ok.o5 ok.off hlen hc hdc hv ok.cl hx') ?_
    rintro v l ⟨rfl, o, ho, rfl⟩
    exact ⟨rfl, ⟨⟨_, _, _, _, i + 1, by rw [List.map_append]; rfl, ho, hre⟩, few', hm'⟩⟩
theorem next_no {w : World} {mean : ExcName → Option Value} {mg mb : Str → Option Value} {κ : LxK} {rest : List (Addr × Obj)} (ok : κ.Ok rest) {tbs : List Value} {cts : List Addr} {l : List (Addr × Obj)} (hat : κ.At rest tbs cts [] l) :
    CallOk w mean mg mb 216 [.ref κ.x] l (fun v l' => v = .none ∧ κ.At rest tbs cts [] l') 6 60 := by
  have hlen : (cts.map Value.ref).length ≤ 1000 := by have := hat.few; rw [List.length_map]; omega
  obtain ⟨⟨ntb, pbs, npb, nct, oit, rfl, hs⟩, few, hm⟩ := hat
  generalize hrem : ([] : List Addr) = cr at hs
  cases hs with
  | dead hv =>
    refine CallOk.lift (next_gone ok.o1 ok.o2 ok.o3 ok.o4 ok.o5 ok.off hlen hv) ?_
    rintro v l ⟨rfl, rfl⟩
    exact ⟨rfl, ⟨⟨_, _, _, _, _, rfl, .dead hv⟩, few, hm⟩⟩
  | back i c' hv _ => cases hrem
  | live i hv =>
    have hx' : (κ.cs.map Value.ref).toArray[i]? = none := by
      have := congrArg List.head? hrem
      simpa [List.head?_drop] using this.symm
    rw [← hrem]
    refine CallOk.lift (next_over ok.o1 ok.o2 ok.o3 ok.o4 ok.o5 ok.off hlen hv ok.cl hx') ?_
    rintro v l ⟨rfl, o, ho, rfl⟩
    exact ⟨rfl, ⟨⟨_, _, _, _, _, rfl, .dead ho⟩, few, hm⟩⟩
theorem backup_ok {w : World} {mean : ExcName → Option Value} {mg mb : Str → Option Value} {κ : LxK} {rest : List (Addr × Obj)} (ok : κ.Ok rest) {tbs : List Value} {cts rem : List Addr} {c : Addr} {l : List (Addr × Obj)} (hat : κ.AtL rest tbs (cts ++ [c]) rem l) :
    CallOk w mean mg mb 223 [.ref κ.x, .ref c] l (fun v l' => v = .none ∧ κ.At rest tbs cts (c :: rem) l') 6 60 := by
  have hlen : (cts.map Value.ref).length ≤ 1000 := by have := hat.few; simp only [List.length_append] at this; rw [List.length_map]; omega
  have hcm := hat.mem c (by simp)
  obtain ⟨dc, ch1, ch2, ck1, ck2, ctk, nc, hc, hdc⟩ := ok.chars c hcm
  obtain ⟨⟨ntb, npb, nct, oit, i, rfl, hv, rfl⟩, few, hm⟩ := hat
  have e : (cts ++ [c]).map Value.ref = cts.map Value.ref ++ [Value.ref c] := by rw [List.map_append]; rfl
  rw [e]
  refine CallOk.lift (backup_some ok.o1 ok.o2 ok.o3 ok.o4 ok.o5 ok.off hlen hc hdc) ?_
  rintro v l ⟨rfl, rfl⟩
  exact ⟨rfl, ⟨⟨_, _, _, _, _, rfl, .back i c hv hcm⟩, by simp only [List.length_append, List.length_cons, List.length_nil] at few ⊢; omega, fun d hd' => hm d (List.mem_append_left _ hd')⟩⟩
theorem is_digit {n : Nat} {t : Str} (h : (PySem.Builtin.Str.occurrences t ⟨#[n]⟩ 0 t.length 1).isEmpty = false) : n ∈ t.cps.toList := by
  have e := PySem.StrLaws.found_one t n
  rw [h] at e
  exact of_decide_eq_true e.symm
theorem not_digit {n : Nat} {t : Str} (h : (PySem.Builtin.Str.occurrences t ⟨#[n]⟩ 0 t.length 1).isEmpty = true) : ¬ n ∈ t.cps.toList := by
  have e := PySem.StrLaws.found_one t n
  rw [h] at e
  exact of_decide_eq_false e.symm
noncomputable def lawBody : List Stmt := match PySem.Challenge.pw_rk0008_01.main.body.getLast? with | some (.FunctionDef _ _ b _ _ _ _ _ _ _) => b | _ => []
noncomputable def lawDef (i : Nat) : Arguments × List Stmt × Scope := match lawBody[i]? with | some (.FunctionDef _ a b _ _ _ s _ _ _) => (a, b, s) | _ => (⟨[], [], none, [], [], none, []⟩, [], default)
/-- the law's own defs -/
noncomputable def startDef := lawDef 8
noncomputable def stopDef := lawDef 7
/-- the law's own defs and their cells stand in the ledger -/
structure StartIn (rest : List (Addr × Obj)) (x f0 f1 xc sc tc : Addr) (ox os ot : Obj) : Prop where
  hx : (xc, ox) ∈ rest
  hs : (sc, os) ∈ rest
  ht : (tc, ot) ∈ rest
  dx : ox.data = .cell (some (.ref x))
  ds : os.data = .cell (some (.ref f0))
  dt : ot.data = .cell (some (.ref f1))
  f1 : ∃ c1 oc1 vs1 t1 doc pm ct, (f1, fnMade (Str.ofString "start") (Str.ofString "law.<locals>.start") startDef.1 startDef.2.1 startDef.2.2 [(Str.ofString "stop", sc), (Str.ofString "start", tc), (Str.ofString "lexer", xc)] doc pm c1 ct) ∈ rest ∧
    (c1, oc1) ∈ rest ∧ oc1.data = .fields vs1 ∧ vs1[1]? = some (.str (Str.ofString "law.<locals>.start") t1)
  f0 : ∃ c1 oc1 vs1 t1 doc pm ct, (f0, fnMade (Str.ofString "stop") (Str.ofString "law.<locals>.stop") stopDef.1 stopDef.2.1 stopDef.2.2 [] doc pm c1 ct) ∈ rest ∧
    (c1, oc1) ∈ rest ∧ oc1.data = .fields vs1 ∧ vs1[1]? = some (.str (Str.ofString "law.<locals>.stop") t1)



theorem start_ok {w : World} {mean : ExcName → Option Value} {mg mb : Str → Option Value} {κ : LxK} {rest : List (Addr × Obj)} {ps : Array Value} (em : κ.Em ps rest) {f0 f1 xc sc tc : Addr} {ox os oct : Obj} (st : StartIn rest κ.x f0 f1 xc sc tc ox os oct) {c : Addr} {rem : List Addr} {l : List (Addr × Obj)} (hat9 : κ.At ((225, tabObj ps) :: rest) [] [] (c :: rem) l)
    (hdot : κ.sg c ∈ (Str.ofString "0123456789").cps.toList → ∀ e r vs, Lex1 κ.sg (c :: rem) e r vs → ∀ c t, (r.dropWhile fun c => decide (κ.sg c ∈ vs.cps.toList)) = c :: t → κ.sg c ≠ 46) :
    CallOkG w mean mg mb f1 [] l (fun v l' => v = .ref f1 ∧ ∃ cts r ps' new tok, ((κ.sg c ∈ (Str.ofString "0123456789").cps.toList ∧ LexNum κ.sg (c :: rem) cts r ∧ TokIn new tok (Str.ofString "NUMBER") ⟨(cts.map κ.sg).toArray⟩ (κ.lo c)) ∨
      (¬ κ.sg c ∈ (Str.ofString "0123456789").cps.toList ∧ cts = [c] ∧ r = rem ∧ TokIn new tok (Str.ofString "ONE") ⟨(cts.map κ.sg).toArray⟩ (κ.lo c))) ∧
      κ.New ps' new rest ∧ κ.At ((225, tabObj ps') :: (new ++ rest)) [.ref tok] [] r l') 14 140 := by
  intro dp un gd cn csn csg csc csm a ccd cl9 outer A₀ base h₀ L m s Q E B F X N T hd hu hret
  have ok9 := em.ok
  obtain ⟨⟨ntb9, pbs9, npb9, nct9, oit9, e9l, hs9⟩, few9, hm9⟩ := id hat9
  subst e9l
  unfold LxK.led at hat9 N
  have low9 := em.low
  have o1 := ok9.o1
  have o2 := ok9.o2
  have o3 := ok9.o3
  have o4 := ok9.o4
  have o5 := ok9.o5
  obtain ⟨dc, ch1, ch2, ck1, ck2, ctk, nc, hc1, hc2⟩ := (ok9.chars c (hat9.rem c (.head _))).tl
  obtain ⟨hcx, hcs, hct, dx9, ds9, dt9, ⟨c1, oc1, vs1, tt1, doc1, pm1, ct1, hf1, hcd1, hcv1, hcn1⟩, hf0⟩ := st
  have eL : startDef = startDef := rfl
  conv at eL => rhs; whnf
  rw [eL] at hf1
  dsimp only at hf1
  have hchd := codeHd_of_K (c := 229) (P := 225) X (by kernel_rfl)
  refine wpAny_call ?_
  k_dflt kn_enter
  (repeat' (first | ((k_here; (with_reducible show wpAny _ _ (call (Value.ref _) _) _ _ _); k_dflt (refine' CallOkG.use (lex_ok (c0 := c) ?a0 ?a1 rfl ?a2 ?a3) ?B ?F ?X ?N ?T ?d ?u ?_; (case N => k_asm); (case F => k_asm); (case B => k_asm); (case X => k_asm); (case T => k_asm); (case a0 => assumption); (case a1 => assumption); (case a2 => refine is_digit ?_; assumption); (case a3 => exact hdot (is_digit (by assumption))); (case d => ktr_room); (case u => ktr_units); k_whole); intro v9 l9 h9 gn9 tk9 P9 G9 F9 N9; obtain ⟨cts9, r9, ps9, new9, tok9, hlx9, nw9, hat9, tin9⟩ := P9;  obtain ⟨rest, hg9⟩ : ∃ r, r = new9 ++ rest := ⟨_, rfl⟩; rw [← hg9] at hat9; (have hct9 : (tc, oct) ∈ rest := (hg9 ▸ List.mem_append_right new9 hct)); dsimp only at G9; obtain ⟨⟨ntb9, pbs9, npb9, nct9, oit9, e9l, hs9⟩, few9, hm9⟩ := id hat9; subst e9l; (try unfold LxK.led at hat9 N9); (try dsimp only); (try k_sweep); (try k_fold))) | ((k_here; (with_reducible show wpAny _ _ (call (Value.ref _) _) _ _ _); k_dflt (refine' CallOkG.use (emit_ok' ?a0 ?a1 ?a2) ?B ?F ?X ?N ?T ?d ?u (ret_em ?_); (case N => k_asm); (case F => k_asm); (case B => k_asm); (case X => k_asm); (case T => k_asm); (case a0 => assumption); (case a1 => exact LxK.AtL.at (by assumption)); (case a2 => exact List.cons_ne_nil _ _); (case d => ktr_room); (case u => ktr_units); k_whole); intro h9 gn9 tk9 ps9 new9 tok9 c09 cr9 rest ntb9 pbs9 npb9 nct9 oit9 hg9 hcr9 nw9 hs9 hat9 tin9 G9 F9 N9; (have hct9 : (tc, oct) ∈ rest := (hg9 ▸ List.mem_append_right new9 hct)); (try dsimp only); (try k_sweep); (try k_fold))) | ((k_here; (with_reducible show wpAny _ _ (call (Value.ref _) _) _ _ _); k_dflt (refine' CallOk.use (backup_ok (cts := []) ?a0 ?a1) ?B ?F ?X ?N ?T ?d ?u (ret_at ?_); (case N => k_asm); (case F => k_asm); (case B => k_asm); (case X => k_asm); (case T => k_asm); (case a0 => assumption); (case a1 => assumption); (case d => ktr_room); (case u => ktr_units); k_whole); intro h9 tk9 ntb9 pbs9 npb9 nct9 oit9 hs9 hat9 F9 N9; (try dsimp only); (try k_sweep); (try k_fold))) | ((k_here; (with_reducible show wpAny _ _ (call (Value.ref _) _) _ _ _); k_dflt (refine' CallOk.use (next_ok ?a0 ?a1) ?B ?F ?X ?N ?T ?d ?u ?_; (case N => k_asm); (case F => k_asm); (case B => k_asm); (case X => k_asm); (case T => k_asm); (case a0 => assumption); (case a1 => assumption); (case d => ktr_room); (case u => ktr_units); k_whole); intro v9 l9 h9 tk9 P9 F9 N9; obtain ⟨e9v, hat9⟩ := P9; subst e9v; obtain ⟨⟨ntb9, npb9, nct9, oit9, i9, e9l, hv9, hr9⟩, few9, hm9⟩ := id hat9; subst e9l; (try unfold LxK.led at hat9 N9); (try dsimp only); (try k_sweep); (try k_fold))) | (k_unfold; (try dsimp only)) | (k_end; kc_close) | walk1 | (dsimp only; walk1) | (leave1; walk_say "STEP leave1"; (try dsimp only)) | fail "no step"))
  all_goals (subst hg9; rename Fr _ _ _ _ => F8; rename News _ _ _ _ => N8; rename LxK.At _ _ _ _ _ _ => hat8)
  · have e8 : c09 = c := (List.cons.inj hcr9).1.symm
    subst e8
    exact hret _ _ _ _ _ ⟨rfl, _, _, _, _, _, .inr ⟨not_digit (by assumption), rfl, rfl, tin9⟩, nw9, hat8⟩ G9 F8 N8
  · exact hret _ _ _ _ _ ⟨rfl, _, _, _, _, _, .inl ⟨is_digit (by assumption), hlx9, tin9⟩, nw9, hat8⟩ G9 F8 N8



theorem start_end {w : World} {mean : ExcName → Option Value} {mg mb : Str → Option Value} {κ : LxK} {rest : List (Addr × Obj)} {ps : Array Value} (em : κ.Em ps rest) {f0 f1 xc sc tc : Addr} {ox os oct : Obj} (st : StartIn rest κ.x f0 f1 xc sc tc ox os oct) {l : List (Addr × Obj)} (hat9 : κ.At ((225, tabObj ps) :: rest) [] [] [] l) :
    CallOk w mean mg mb f1 [] l (fun v l' => v = .ref f0 ∧ κ.At ((225, tabObj ps) :: rest) [] [] [] l') 14 140 := by
  intro dp un gd cn csn csg csc csm a ccd cl9 outer A₀ base h₀ L m s Q E B F X N T hd hu hret
  have ok9 := em.ok
  obtain ⟨⟨ntb9, pbs9, npb9, nct9, oit9, e9l, hs9⟩, few9, hm9⟩ := id hat9
  subst e9l
  unfold LxK.led at hat9 N
  have low9 := em.low
  have o1 := ok9.o1
  have o2 := ok9.o2
  have o3 := ok9.o3
  have o4 := ok9.o4
  have o5 := ok9.o5
  obtain ⟨hcx, hcs, hct, dx9, ds9, dt9, ⟨c1, oc1, vs1, tt1, doc1, pm1, ct1, hf1, hcd1, hcv1, hcn1⟩, hf0⟩ := st
  have eL : startDef = startDef := rfl
  conv at eL => rhs; whnf
  rw [eL] at hf1
  dsimp only at hf1
  have hchd := codeHd_of_K (c := 229) (P := 225) X (by kernel_rfl)
  refine wpAny_call ?_
  k_dflt kn_enter
  (repeat' (first | ((k_here; (with_reducible show wpAny _ _ (call (Value.ref _) _) _ _ _); k_dflt (refine' CallOk.use (next_no ?a0 ?a1) ?B ?F ?X ?N ?T ?d ?u (ret_at ?_); (case N => k_asm); (case F => k_asm); (case B => k_asm); (case X => k_asm); (case T => k_asm); (case a0 => assumption); (case a1 => assumption); (case d => ktr_room); (case u => ktr_units); k_whole); intro h9 tk9 ntb9 pbs9 npb9 nct9 oit9 hs9 hat9 F9 N9; (try dsimp only); (try k_sweep); (try k_fold))) | (k_unfold; (try dsimp only)) | (k_end; kc_close) | walk1 | (dsimp only; walk1) | (leave1; walk_say "STEP leave1"; (try dsimp only)) | fail "no step"))
  all_goals (rename Fr _ _ _ _ => F8; rename News _ _ _ _ => N8; rename LxK.At _ _ _ _ _ _ => hat8)
  exact hret _ _ _ _ ⟨rfl, hat8⟩ F8 N8
theorem stop_ok {w : World} {mean : ExcName → Option Value} {mg mb : Str → Option Value} {rest : List (Addr × Obj)} {x : Addr} {f0 f1 xc sc tc : Addr} {ox os oct : Obj} (st : StartIn rest x f0 f1 xc sc tc ox os oct) {l : List (Addr × Obj)} (hl : ∀ p ∈ rest, p ∈ l) :
    CallOk w mean mg mb f0 [] l (fun v l' => v = .none ∧ l' = l) 14 140 := by
  intro dp un gd cn csn csg csc csm a ccd cl9 outer A₀ base h₀ L m s Q E B F X N T hd hu hret
  obtain ⟨hcx, hcs, hct, dx9, ds9, dt9, hf1, ⟨c1, oc1, vs1, tt1, doc1, pm1, ct1, hf0, hcd1, hcv1, hcn1⟩⟩ := st
  have eL : stopDef = stopDef := rfl
  conv at eL => rhs; whnf
  rw [eL] at hf0
  dsimp only at hf0
  replace hf0 := hl _ hf0
  replace hcd1 := hl _ hcd1
  have hchd := codeHd_of_K (c := 229) (P := 225) X (by kernel_rfl)
  refine wpAny_call ?_
  k_dflt kn_enter
  k_steps
  all_goals (rename Fr _ _ _ _ => F8; rename News _ _ _ _ => N8)
  exact hret _ _ _ _ ⟨rfl, rfl⟩ F8 N8
end
section
open PySem PySem.W PyProof.Rows PySem.Calls
set_option maxRecDepth 100000
set_option maxHeartbeats 400000


theorem noBool_fn : typeLookup (.type "function") "__bool__" = pure none := by rw [typeLookup_type, builtinLookup_eq_fast]; kernel_rfl
theorem noLen_fn : typeLookup (.type "function") "__len__" = pure none := by rw [typeLookup_type, builtinLookup_eq_fast]; kernel_rfl
theorem truthyF {prog : Program} {w : World} {A : Around} {E : Value → Shared → Prop} {s : Shared} {h₀ : Heap} {L f : Addr} {news : List (Addr × Obj)} {fd : FuncData} {Q : Bool → Shared → Prop} (N : News h₀ L s.heap news) (hm : (f, ({ cls := .type "function", data := .func fd } : Obj)) ∈ news)
    (h : Q true s) : wpAny (model prog w) A (truthy (.ref f)) Q E s := by
  have hT : s.TypeIs (.ref f) "function" := ⟨_, (N _ hm).1, rfl⟩
  unfold truthy
  first
    | refine wpAny_bind (wpAny_callSpecial?_none (name := Str.ofString "__bool__") hT noBool_fn ?_)
    | refine wpAny_bind (wpAny_pure (wpAny_bind (wpAny_callSpecial?_none (name := Str.ofString "__bool__") hT noBool_fn ?_)))
  first
    | refine wpAny_bind (wpAny_specialOf (name := Str.ofString "__len__") hT noLen_fn ?_)
    | refine wpAny_bind (wpAny_pure (wpAny_bind (wpAny_specialOf (name := Str.ofString "__len__") hT noLen_fn ?_)))
  first
    | exact wpAny_pure h
    | exact wpAny_ite (wpAny_pure h)
noncomputable def clsBody (i : Nat) : List Stmt := match PySem.Challenge.pw_rk0008_01.main.body[i]? with | some (.ClassDef _ _ _ b _ _ _ _ _ _ _) => b | _ => []
noncomputable def methDef (i j : Nat) : Arguments × List Stmt × Scope := match (clsBody i)[j]? with | some (.FunctionDef _ a b _ _ _ s _ _ _) => (a, b, s) | _ => (⟨[], [], none, [], [], none, []⟩, [], default)
/-- HandLexerBase.tokenize -/
noncomputable def tokDef := methDef 10 1
noncomputable def whileOf : Option Stmt → Expr × List Stmt
  | some (.While t b _ _) => (t, b)
  | _ => (.Constant .none 0 default, [])
noncomputable def tokOut := whileOf tokDef.2.1[2]?
noncomputable def tokIn := whileOf tokOut.2[0]?
noncomputable def tokStep : Stmt := tokOut.2.getD 1 default
noncomputable def popOf : Option Stmt → Expr
  | some (.Expr (.Yield (some e) _) _) => e
  | _ => .Constant .none 0 default
noncomputable def tokPop := popOf tokIn.2[0]?
noncomputable abbrev tokEnv (Lg : Addr) : Env := envX (Str.ofString "HandLexerBase.tokenize") tokDef.2.2 Lg 208 (.ref 207) []
/-- where the generator's code stands -/
noncomputable abbrev tokA (dp un : Nat) (gd : Option (List Code)) (Lg : Addr) (outer : List Env) : Around := ktrTop (dp + 1) (un + 4) gd (Str.ofString "HandLexerBase.tokenize") tokDef.2.2 Lg 208 (.ref 207) [] outer
noncomputable abbrev tokM (κ : LxK) (f1 : Addr) (st : Value) : Str → Option Value := fun y => if y = Str.ofString "state" then some st else List.lookup y [(Str.ofString "start_state", .ref f1), (Str.ofString "characters", .ref κ.it), (Str.ofString "self", .ref κ.x)]



theorem t_inner {w : World} {mean : ExcName → Option Value} {mg mb : Str → Option Value} {κ : LxK} {rest : List (Addr × Obj)} {ps : Array Value} (em : κ.Em ps rest) {dp un : Nat} {gd : Option (List Code)} {Lg : Addr} {outer : List Env} {A₀ : Around} {base h₀ : Heap} {s : Shared} {E : Value → Shared → Prop} (B : Below A₀ base outer h₀) (X : (hd.heap_39 w.params).In h₀) (T : Top view loose mean mg mb h₀) (hd : dp + 20 < recursionLimit) (hu : un + 200 < cLine) {f1 : Addr} {st : Value} (F : Fr h₀ Lg s.heap (tokM κ f1 st)) {tbs : List Value} {rem : List Addr} {l : List (Addr × Obj)} (hat9 : κ.At ((225, tabObj ps) :: rest) tbs [] rem l) (N : News h₀ Lg s.heap l) (htb : tbs.length ≤ 1000) {Q : Bool → Shared → Prop}
    (h : ∀ tk, Q (!tbs.isEmpty) { s with toks := tk }) : wpAny (model PySem.Challenge.pw_rk0008_01 w) (tokA dp un gd Lg outer) (isTrue tokIn.1 (tokEnv Lg) (eval tokIn.1 (tokEnv Lg))) Q E s := by
  have ok9 := em.ok
  obtain ⟨⟨ntb9, pbs9, npb9, nct9, oit9, e9l, hs9⟩, few9, hm9⟩ := id hat9
  subst e9l
  unfold LxK.led at hat9 N
  have low9 := em.low
  have o1 := ok9.o1
  have o2 := ok9.o2
  have o3 := ok9.o3
  have o4 := ok9.o4
  have o5 := ok9.o5
  have hchd := codeHd_of_K (c := 229) (P := 225) X (by kernel_rfl)
  have off6 : OwnOff rest [225, κ.tb, κ.pb, κ.ct, κ.it] := fun p hp b hb => by
    rcases List.mem_cons.mp hb with rfl | hb
    · exact em.off p hp 225 (.head _)
    · exact ok9.off p (.tail _ hp) b hb
  have eL : tokDef = tokDef := rfl
  conv at eL => rhs; whnf
  have eU : tokIn.1 = tokIn.1 := rfl
  conv at eU => rhs; whnf
  rw [eU]
  unfold tokA tokEnv
  rw [eL]
  dsimp only
  walk1
  (repeat' (first | ((k_here; (with_reducible show wpAny _ _ (truthy (Value.ref _)) _ _ _); k_dflt (refine' truthyL ?N ?m ?z ?_; (case N => k_asm); (case m => k_mem); (case z => (try simp only [List.size_toArray, List.length_map, List.length_append, List.length_cons, List.length_nil]); omega); k_whole); (try simp only [List.isEmpty_toArray, List.isEmpty_cons, List.isEmpty_nil, Bool.not_false, Bool.not_true]))) | (k_unfold; (try dsimp only)) | (k_end; kc_close) | walk1 | (dsimp only; walk1) | (leave1; walk_say "STEP leave1"; (try dsimp only)) | fail "no step"))
  exact h _
theorem t_outer0 {w : World} {mean : ExcName → Option Value} {mg mb : Str → Option Value} {κ : LxK} {rest : List (Addr × Obj)} {ps : Array Value} (em : κ.Em ps rest) {dp un : Nat} {gd : Option (List Code)} {Lg : Addr} {outer : List Env} {A₀ : Around} {base h₀ : Heap} {s : Shared} {E : Value → Shared → Prop} (B : Below A₀ base outer h₀) (X : (hd.heap_39 w.params).In h₀) (T : Top view loose mean mg mb h₀) (hd : dp + 20 < recursionLimit) (hu : un + 200 < cLine) {f1 : Addr} (F : Fr h₀ Lg s.heap (tokM κ f1 .none)) {l : List (Addr × Obj)} (N : News h₀ Lg s.heap l) {Q : Bool → Shared → Prop}
    (h : ∀ tk, Q false { s with toks := tk }) : wpAny (model PySem.Challenge.pw_rk0008_01 w) (tokA dp un gd Lg outer) (isTrue tokOut.1 (tokEnv Lg) (eval tokOut.1 (tokEnv Lg))) Q E s := by
  have eL : tokDef = tokDef := rfl
  conv at eL => rhs; whnf
  have eU : tokOut.1 = tokOut.1 := rfl
  conv at eU => rhs; whnf
  rw [eU]
  unfold tokA tokEnv
  rw [eL]
  dsimp only
  walk1
  k_steps
  exact h _
theorem t_outer1 {w : World} {mean : ExcName → Option Value} {mg mb : Str → Option Value} {κ : LxK} {rest : List (Addr × Obj)} {ps : Array Value} (em : κ.Em ps rest) {dp un : Nat} {gd : Option (List Code)} {Lg : Addr} {outer : List Env} {A₀ : Around} {base h₀ : Heap} {s : Shared} {E : Value → Shared → Prop} (B : Below A₀ base outer h₀) (X : (hd.heap_39 w.params).In h₀) (T : Top view loose mean mg mb h₀) (hd : dp + 20 < recursionLimit) (hu : un + 200 < cLine) {f1 f : Addr} {fd : FuncData} (F : Fr h₀ Lg s.heap (tokM κ f1 (.ref f))) {l : List (Addr × Obj)} (N : News h₀ Lg s.heap l) (hf : (f, ({ cls := .type "function", data := .func fd } : Obj)) ∈ l) {Q : Bool → Shared → Prop}
    (h : ∀ tk, Q true { s with toks := tk }) : wpAny (model PySem.Challenge.pw_rk0008_01 w) (tokA dp un gd Lg outer) (isTrue tokOut.1 (tokEnv Lg) (eval tokOut.1 (tokEnv Lg))) Q E s := by
  have eL : tokDef = tokDef := rfl
  conv at eL => rhs; whnf
  have eU : tokOut.1 = tokOut.1 := rfl
  conv at eU => rhs; whnf
  rw [eU]
  unfold tokA tokEnv
  rw [eL]
  dsimp only
  walk1
  (repeat' (first | ((k_here; (with_reducible show wpAny _ _ (truthy (Value.ref _)) _ _ _); k_dflt (refine' truthyF ?N ?m ?_; (case N => k_asm); (case m => k_mem); k_whole))) | (k_unfold; (try dsimp only)) | (k_end; kc_close) | walk1 | (dsimp only; walk1) | (leave1; walk_say "STEP leave1"; (try dsimp only)) | fail "no step"))
  exact h _
theorem t_pop {w : World} {mean : ExcName → Option Value} {mg mb : Str → Option Value} {κ : LxK} {rest : List (Addr × Obj)} {ps : Array Value} (em : κ.Em ps rest) {dp un : Nat} {gd : Option (List Code)} {Lg : Addr} {outer : List Env} {A₀ : Around} {base h₀ : Heap} {s : Shared} {E : Value → Shared → Prop} (B : Below A₀ base outer h₀) (X : (hd.heap_39 w.params).In h₀) (T : Top view loose mean mg mb h₀) {t9 : Addr} (hd : dp + 20 < recursionLimit) (hu : un + 200 < cLine) {f1 : Addr} {st : Value} (F : Fr h₀ Lg s.heap (tokM κ f1 st)) {rem : List Addr} {l : List (Addr × Obj)} (hat9 : κ.At ((225, tabObj ps) :: rest) [.ref t9] [] rem l) (N : News h₀ Lg s.heap l) {Q : Value → Shared → Prop}
    (h : ∀ h' tk l', Fr h₀ Lg h' (tokM κ f1 st) → κ.At ((225, tabObj ps) :: rest) [] [] rem l' → News h₀ Lg h' l' → Q (.ref t9) { s with heap := h', toks := tk }) : wpAny (model PySem.Challenge.pw_rk0008_01 w) (tokA dp un gd Lg outer) (eval tokPop (tokEnv Lg)) Q E s := by
  have ok9 := em.ok
  obtain ⟨⟨ntb9, pbs9, npb9, nct9, oit9, e9l, hs9⟩, few9, hm9⟩ := id hat9
  subst e9l
  unfold LxK.led at hat9 N
  have low9 := em.low
  have o1 := ok9.o1
  have o2 := ok9.o2
  have o3 := ok9.o3
  have o4 := ok9.o4
  have o5 := ok9.o5
  have hchd := codeHd_of_K (c := 229) (P := 225) X (by kernel_rfl)
  have off6 : OwnOff rest [225, κ.tb, κ.pb, κ.ct, κ.it] := fun p hp b hb => by
    rcases List.mem_cons.mp hb with rfl | hb
    · exact em.off p hp 225 (.head _)
    · exact ok9.off p (.tail _ hp) b hb
  have eL : tokDef = tokDef := rfl
  conv at eL => rhs; whnf
  have eU : tokPop = tokPop := rfl
  conv at eU => rhs; whnf
  rw [eU]
  unfold tokA tokEnv
  rw [eL]
  dsimp only
  walk1
  k_steps
  rename Fr _ _ _ _ => F8
  rename News _ _ _ _ => N8
  exact h _ _ _ F8 ⟨⟨_, _, _, _, _, rfl, hs9⟩, few9, hm9⟩ N8
theorem tokM_set {κ : LxK} {f1 : Addr} {st v : Value} : (fun y => if y = Str.ofString "state" then some v else tokM κ f1 st y) = tokM κ f1 v := by
  funext y
  unfold tokM
  by_cases h : y = Str.ofString "state" <;> simp only [h, if_true, if_false]



theorem t_step_start {w : World} {mean : ExcName → Option Value} {mg mb : Str → Option Value} {κ : LxK} {rest : List (Addr × Obj)} {ps : Array Value} (em : κ.Em ps rest) {dp un : Nat} {gd : Option (List Code)} {Lg : Addr} {outer : List Env} {A₀ : Around} {base h₀ : Heap} {s : Shared} {c : Addr} {E : Value → Shared → Prop} (B : Below A₀ base outer h₀) (X : (hd.heap_39 w.params).In h₀) (T : Top view loose mean mg mb h₀) (hd : dp + 20 < recursionLimit) (hu : un + 200 < cLine) {f1 : Addr}  (F : Fr h₀ Lg s.heap (tokM κ f1 (.ref f1))) {rem : List Addr} {l : List (Addr × Obj)} (hat9 : κ.At ((225, tabObj ps) :: rest) [] [] (c :: rem) l) (N : News h₀ Lg s.heap l) {f0 xc sc tc : Addr} {ox os oct : Obj} (sti : StartIn rest κ.x f0 f1 xc sc tc ox os oct)
    (hdot : κ.sg c ∈ (Str.ofString "0123456789").cps.toList → ∀ e r vs, Lex1 κ.sg (c :: rem) e r vs → ∀ c t, (r.dropWhile fun c => decide (κ.sg c ∈ vs.cps.toList)) = c :: t → κ.sg c ≠ 46) {Q : Flow → Shared → Prop}
    (h : ∀ h' gn' tk' l' cts r ps' new tok, ((κ.sg c ∈ (Str.ofString "0123456789").cps.toList ∧ LexNum κ.sg (c :: rem) cts r ∧ TokIn new tok (Str.ofString "NUMBER") ⟨(cts.map κ.sg).toArray⟩ (κ.lo c)) ∨
      (¬ κ.sg c ∈ (Str.ofString "0123456789").cps.toList ∧ cts = [c] ∧ r = rem ∧ TokIn new tok (Str.ofString "ONE") ⟨(cts.map κ.sg).toArray⟩ (κ.lo c))) →
      κ.New ps' new rest → κ.At ((225, tabObj ps') :: (new ++ rest)) [.ref tok] [] r l' → GensUp s.gens gn' → Fr h₀ Lg h' (tokM κ f1 (.ref f1)) → News h₀ Lg h' l' → Q .next { s with heap := h', gens := gn', toks := tk' }) : wpAny (model PySem.Challenge.pw_rk0008_01 w) (tokA dp un gd Lg outer) (exec tokStep (tokEnv Lg)) Q E s := by
  obtain ⟨hcx, hcs, hct, dx9, ds9, dt9, ⟨c1, oc1, vs1, tt1, doc1, pm1, ct1, hf1, hcd1, hcv1, hcn1⟩, ⟨c2, oc2, vs2, tt2, doc2, pm2, ct2, hf0, hcd2, hcv2, hcn2⟩⟩ := id sti
  have ok9 := em.ok
  obtain ⟨⟨ntb9, pbs9, npb9, nct9, oit9, e9l, hs9⟩, few9, hm9⟩ := id hat9
  subst e9l
  unfold LxK.led at hat9 N
  have low9 := em.low
  have o1 := ok9.o1
  have o2 := ok9.o2
  have o3 := ok9.o3
  have o4 := ok9.o4
  have o5 := ok9.o5
  have hchd := codeHd_of_K (c := 229) (P := 225) X (by kernel_rfl)
  have off6 : OwnOff rest [225, κ.tb, κ.pb, κ.ct, κ.it] := fun p hp b hb => by
    rcases List.mem_cons.mp hb with rfl | hb
    · exact em.off p hp 225 (.head _)
    · exact ok9.off p (.tail _ hp) b hb
  have eL : tokDef = tokDef := rfl
  conv at eL => rhs; whnf
  have eU : tokStep = tokStep := rfl
  conv at eU => rhs; whnf
  rw [eU]
  unfold tokA tokEnv
  rw [eL]
  dsimp only
  (repeat' (first | ((k_here; (with_reducible show wpAny _ _ (call (Value.ref _) _) _ _ _); k_dflt (refine' CallOkG.use (start_ok em sti hat9 hdot) ?B ?F ?X ?N ?T ?d ?u ?_; (case N => k_asm); (case F => k_asm); (case B => k_asm); (case X => k_asm); (case T => k_asm); (case d => ktr_room); (case u => ktr_units); k_whole); intro v9 l9 h9 gn9 tk9 P9 G9 F9 N9; obtain ⟨e9v, cts9, r9, ps9, new9, tok9, hk9, nw9, hat9⟩ := P9; subst e9v; (try dsimp only at G9); (try dsimp only); (try k_sweep); (try k_fold))) | (k_unfold; (try dsimp only)) | (k_end; kc_close) | walk1 | (dsimp only; walk1) | (leave1; walk_say "STEP leave1"; (try dsimp only)) | fail "no step"))
  rename Fr _ _ _ _ => F8
  rename News _ _ _ _ => N8
  exact h _ _ _ _ _ _ _ _ _ hk9 nw9 (by assumption) G9 (tokM_set ▸ F8) N8



theorem t_step_end {w : World} {mean : ExcName → Option Value} {mg mb : Str → Option Value} {κ : LxK} {rest : List (Addr × Obj)} {ps : Array Value} (em : κ.Em ps rest) {dp un : Nat} {gd : Option (List Code)} {Lg : Addr} {outer : List Env} {A₀ : Around} {base h₀ : Heap} {s : Shared} {E : Value → Shared → Prop} (B : Below A₀ base outer h₀) (X : (hd.heap_39 w.params).In h₀) (T : Top view loose mean mg mb h₀) (hd : dp + 20 < recursionLimit) (hu : un + 200 < cLine) {f1 : Addr}  (F : Fr h₀ Lg s.heap (tokM κ f1 (.ref f1))) {l : List (Addr × Obj)} (hat9 : κ.At ((225, tabObj ps) :: rest) [] [] [] l) (N : News h₀ Lg s.heap l) {f0 xc sc tc : Addr} {ox os oct : Obj} (sti : StartIn rest κ.x f0 f1 xc sc tc ox os oct) {Q : Flow → Shared → Prop}
    (h : ∀ h' tk' l', κ.At ((225, tabObj ps) :: rest) [] [] [] l' → Fr h₀ Lg h' (tokM κ f1 (.ref f0)) → News h₀ Lg h' l' → Q .next { s with heap := h', toks := tk' }) : wpAny (model PySem.Challenge.pw_rk0008_01 w) (tokA dp un gd Lg outer) (exec tokStep (tokEnv Lg)) Q E s := by
  obtain ⟨hcx, hcs, hct, dx9, ds9, dt9, ⟨c1, oc1, vs1, tt1, doc1, pm1, ct1, hf1, hcd1, hcv1, hcn1⟩, ⟨c2, oc2, vs2, tt2, doc2, pm2, ct2, hf0, hcd2, hcv2, hcn2⟩⟩ := id sti
  have ok9 := em.ok
  obtain ⟨⟨ntb9, pbs9, npb9, nct9, oit9, e9l, hs9⟩, few9, hm9⟩ := id hat9
  subst e9l
  unfold LxK.led at hat9 N
  have low9 := em.low
  have o1 := ok9.o1
  have o2 := ok9.o2
  have o3 := ok9.o3
  have o4 := ok9.o4
  have o5 := ok9.o5
  have hchd := codeHd_of_K (c := 229) (P := 225) X (by kernel_rfl)
  have off6 : OwnOff rest [225, κ.tb, κ.pb, κ.ct, κ.it] := fun p hp b hb => by
    rcases List.mem_cons.mp hb with rfl | hb
    · exact em.off p hp 225 (.head _)
    · exact ok9.off p (.tail _ hp) b hb
  have eL : tokDef = tokDef := rfl
  conv at eL => rhs; whnf
  have eU : tokStep = tokStep := rfl
  conv at eU => rhs; whnf
  rw [eU]
  unfold tokA tokEnv
  rw [eL]
  dsimp only
  (repeat' (first | ((k_here; (with_reducible show wpAny _ _ (call (Value.ref _) _) _ _ _); k_dflt (refine' CallOk.use (start_end em sti hat9) ?B ?F ?X ?N ?T ?d ?u ?_; (case N => k_asm); (case F => k_asm); (case B => k_asm); (case X => k_asm); (case T => k_asm); (case d => ktr_room); (case u => ktr_units); k_whole); intro v9 l9 h9  tk9 P9  F9 N9; obtain ⟨e9v, hat9⟩ := P9; subst e9v; (try dsimp only); (try k_sweep); (try k_fold))) | (k_unfold; (try dsimp only)) | (k_end; kc_close) | walk1 | (dsimp only; walk1) | (leave1; walk_say "STEP leave1"; (try dsimp only)) | fail "no step"))
  rename Fr _ _ _ _ => F8
  rename News _ _ _ _ => N8
  exact h _ _ _ (by assumption) (tokM_set ▸ F8) N8



theorem t_step_stop {w : World} {mean : ExcName → Option Value} {mg mb : Str → Option Value} {κ : LxK} {rest : List (Addr × Obj)} {ps : Array Value} (em : κ.Em ps rest) {dp un : Nat} {gd : Option (List Code)} {Lg : Addr} {outer : List Env} {A₀ : Around} {base h₀ : Heap} {s : Shared} {E : Value → Shared → Prop} (B : Below A₀ base outer h₀) (X : (hd.heap_39 w.params).In h₀) (T : Top view loose mean mg mb h₀) (hd : dp + 20 < recursionLimit) (hu : un + 200 < cLine) {f1 f0 : Addr} (F : Fr h₀ Lg s.heap (tokM κ f1 (.ref f0))) {l : List (Addr × Obj)} (N : News h₀ Lg s.heap l) {xc sc tc : Addr} {ox os oct : Obj} (sti : StartIn rest κ.x f0 f1 xc sc tc ox os oct) (hsub : ∀ p ∈ rest, p ∈ l) {Q : Flow → Shared → Prop}
    (h : ∀ h' tk', Fr h₀ Lg h' (tokM κ f1 .none) → News h₀ Lg h' l → Q .next { s with heap := h', toks := tk' }) : wpAny (model PySem.Challenge.pw_rk0008_01 w) (tokA dp un gd Lg outer) (exec tokStep (tokEnv Lg)) Q E s := by
  obtain ⟨hcx, hcs, hct, dx9, ds9, dt9, ⟨c1, oc1, vs1, tt1, doc1, pm1, ct1, hf1, hcd1, hcv1, hcn1⟩, ⟨c2, oc2, vs2, tt2, doc2, pm2, ct2, hf0, hcd2, hcv2, hcn2⟩⟩ := id sti
  have eL : tokDef = tokDef := rfl
  conv at eL => rhs; whnf
  have hchd := codeHd_of_K (c := 229) (P := 225) X (by kernel_rfl)
  have hf0' := hsub _ hf0
  have eU : tokStep = tokStep := rfl
  conv at eU => rhs; whnf
  rw [eU]
  unfold tokA tokEnv
  rw [eL]
  dsimp only
  (repeat' (first | ((k_here; (with_reducible show wpAny _ _ (call (Value.ref _) _) _ _ _); k_dflt (refine' CallOk.use (stop_ok sti hsub) ?B ?F ?X ?N ?T ?d ?u ?_; (case N => k_asm); (case F => k_asm); (case B => k_asm); (case X => k_asm); (case T => k_asm); (case d => ktr_room); (case u => ktr_units); k_whole); intro v9 l9 h9  tk9 P9  F9 N9; obtain ⟨e9v, e9w⟩ := P9; subst e9v; subst e9w; (try dsimp only); (try k_sweep); (try k_fold))) | (k_unfold; (try dsimp only)) | (k_end; kc_close) | walk1 | (dsimp only; walk1) | (leave1; walk_say "STEP leave1"; (try dsimp only)) | fail "no step"))
  rename Fr _ _ _ _ => F8
  rename News _ _ _ _ => N8
  exact h _ _ (tokM_set ▸ F8) N8
end
section
open PySem PySem.W PyProof.Rows PySem.Calls
set_option maxRecDepth 100000
set_option maxHeartbeats 400000


/-- the tokens that are still to come out of the signs -/
inductive Toks (sg : Addr → Nat) : List Addr → List (Str × List Addr) → Prop
  | nil : Toks sg [] []
  | one {c : Addr} {r : List Addr} {tl : List (Str × List Addr)} : ¬ sg c ∈ (Str.ofString "0123456789").cps.toList → Toks sg r tl → Toks sg (c :: r) ((Str.ofString "ONE", [c]) :: tl)
  | num {c : Addr} {r cr r' : List Addr} {tl : List (Str × List Addr)} : sg c ∈ (Str.ofString "0123456789").cps.toList → (∀ e q vs, Lex1 sg (c :: r) e q vs → ∀ c t, (q.dropWhile fun c => decide (sg c ∈ vs.cps.toList)) = c :: t → sg c ≠ 46) →
      (∀ cts q, LexNum sg (c :: r) cts q → cts = c :: cr ∧ q = r') → Toks sg r' tl → Toks sg (c :: r) ((Str.ofString "NUMBER", c :: cr) :: tl)
/-- the token object at a is the one asked for -/
noncomputable def TokIs (κ : LxK) (l : List (Addr × Obj)) (a : Addr) (k : Str × List Addr) : Prop := ∃ c cr, k.2 = c :: cr ∧ c ∈ κ.cs ∧ TokIn l a k.1 ⟨(k.2.map κ.sg).toArray⟩ (κ.lo c)
theorem StartIn.sub {l l' : List (Addr × Obj)} {x f0 f1 xc sc tc : Addr} {ox os ot : Obj} (h : StartIn l x f0 f1 xc sc tc ox os ot) (s : ∀ p ∈ l, p ∈ l') : StartIn l' x f0 f1 xc sc tc ox os ot := by
  obtain ⟨a1, a2, a3, b1, b2, b3, ⟨c1, oc1, vs1, t1, doc1, pm1, ct1, d1, d2, d3, d4⟩, ⟨c2, oc2, vs2, t2, doc2, pm2, ct2, e1, e2, e3, e4⟩⟩ := h
  exact ⟨s _ a1, s _ a2, s _ a3, b1, b2, b3, ⟨c1, oc1, vs1, t1, doc1, pm1, ct1, s _ d1, s _ d2, d3, d4⟩, ⟨c2, oc2, vs2, t2, doc2, pm2, ct2, s _ e1, s _ e2, e3, e4⟩⟩
/-- the law's own defs: their places -/
structure Defs where
  f0 : Addr
  f1 : Addr
  xc : Addr
  sc : Addr
  tc : Addr
  ox : Obj
  os : Obj
  ot : Obj
  keep : List (Addr × Obj)
/-- a state of the generator: the lexer at the signs rem, tbs in its buffer, st the state; ext is what the taker owns -/
structure GSt (κ : LxK) (δ : Defs) (h₀ : Heap) (Lg : Addr) (ext : List (Addr × Obj)) (ps : Array Value) (rest : List (Addr × Obj)) (st : Value) (tbs : List Value) (rem : List Addr) (s : Shared) : Prop where
  em : κ.Em ps rest
  sti : StartIn rest κ.x δ.f0 δ.f1 δ.xc δ.sc δ.tc δ.ox δ.os δ.ot
  exo : OwnOff ext [225, κ.tb, κ.pb, κ.ct, κ.it]
  off : ∀ p ∈ rest, ∀ q ∈ ext, p.1 ≠ q.1
  sub : ∀ p ∈ δ.keep, p ∈ rest
  fr : Fr h₀ Lg s.heap (tokM κ δ.f1 st)
  nw : ∃ l, κ.At ((225, tabObj ps) :: (ext ++ rest)) tbs [] rem l ∧ News h₀ Lg s.heap l
theorem At.perm {κ : LxK} {R R' : List (Addr × Obj)} {tbs : List Value} {cts rem : List Addr} {l : List (Addr × Obj)} {h₀ h : Heap} {L : Addr} (hat : κ.At R tbs cts rem l) (N : News h₀ L h l) (s : ∀ p ∈ R', p ∈ R) : ∃ l', κ.At R' tbs cts rem l' ∧ News h₀ L h l' := by
  obtain ⟨⟨ntb, pbs, npb, nct, oit, rfl, hs⟩, few, hm⟩ := hat
  refine ⟨_, ⟨⟨ntb, pbs, npb, nct, oit, rfl, hs⟩, few, hm⟩, fun p hp => N p ?_⟩
  simp only [LxK.led, List.mem_cons] at hp ⊢
  rcases hp with hp | hp | hp | hp | hp | hp | hp
  · exact .inl hp
  · exact .inr (.inl hp)
  · exact .inr (.inr (.inl hp))
  · exact .inr (.inr (.inr (.inl hp)))
  · exact .inr (.inr (.inr (.inr (.inl hp))))
  · exact .inr (.inr (.inr (.inr (.inr (.inl hp)))))
  · exact .inr (.inr (.inr (.inr (.inr (.inr (s p hp))))))
theorem At.tail {κ : LxK} {R : List (Addr × Obj)} {tbs : List Value} {cts rem : List Addr} {l : List (Addr × Obj)} (hat : κ.At R tbs cts rem l) : ∀ p ∈ R, p ∈ l := by
  obtain ⟨⟨ntb, pbs, npb, nct, oit, rfl, hs⟩, few, hm⟩ := hat
  exact fun p hp => .tail _ (.tail _ (.tail _ (.tail _ (.tail _ (.tail _ hp)))))
/-- from a segment's start to a state of it -/
structure Rel (exts : Shared → List Addr) (ext : List (Addr × Obj)) (s₀ s : Shared) : Prop where
  at_ : ∀ q ∈ ext, s₀.heap.get? q.1 = some q.2
  keys : ext.map (·.1) = exts s₀
  gens : GensUp s₀.gens s.gens
  drawn : s.drawn = s₀.drawn
  os : s.os = s₀.os
theorem GSt.emx {κ : LxK} {δ : Defs} {h₀ : Heap} {Lg : Addr} {ext rest : List (Addr × Obj)} {ps : Array Value} {st : Value} {tbs : List Value} {rem : List Addr} {s : Shared} (g : GSt κ δ h₀ Lg ext ps rest st tbs rem s) : κ.Em ps (ext ++ rest) := g.em.grow g.em.tab g.exo
theorem GSt.stx {κ : LxK} {δ : Defs} {h₀ : Heap} {Lg : Addr} {ext rest : List (Addr × Obj)} {ps : Array Value} {st : Value} {tbs : List Value} {rem : List Addr} {s : Shared} (g : GSt κ δ h₀ Lg ext ps rest st tbs rem s) : StartIn (ext ++ rest) κ.x δ.f0 δ.f1 δ.xc δ.sc δ.tc δ.ox δ.os δ.ot :=
  g.sti.sub fun _ hp => List.mem_append_right _ hp
theorem GSt.rel {κ : LxK} {δ : Defs} {h₀ : Heap} {Lg : Addr} {ext rest : List (Addr × Obj)} {ps : Array Value} {st : Value} {tbs : List Value} {rem : List Addr} {s : Shared} (g : GSt κ δ h₀ Lg ext ps rest st tbs rem s) {exts : Shared → List Addr} (hk : ext.map (·.1) = exts s) : Rel exts ext s s := by
  obtain ⟨l, hat, N⟩ := g.nw
  exact ⟨fun q hq => (N q (At.tail hat q (.tail _ (List.mem_append_left _ hq)))).1, hk, .refl _, rfl, rfl⟩
/-- the lexer's place with the entry that tokenize writes -/
noncomputable abbrev LxK.upd (κ : LxK) (h5 : Int) (t5 : Tok) (n : Nat) : LxK := { κ with h5 := h5, t5 := t5, ndx := n }
section
variable (κ₀ : LxK) (δ : Defs) (h₀ : Heap) (Lg : Addr) (exts : Shared → List Addr) (all : List (Str × List Addr))
/-- what the generator hands out -/
noncomputable def YP : Protocol := fun n s₀ v s' kap => ∃ h5 t5 nd ps rest ext k tl rem tok, (∃ pre, all = pre ++ k :: tl) ∧ tl.length = n ∧ Toks κ₀.sg rem tl ∧ v = .ref tok ∧ TokIs κ₀ rest tok k ∧
  GSt (κ₀.upd h5 t5 nd) δ h₀ Lg ext ps rest (.ref δ.f1) [] rem s' ∧ Rel exts ext s₀ s' ∧
  ∀ ext' s'', ext'.map (·.1) = exts s'' → GSt (κ₀.upd h5 t5 nd) δ h₀ Lg ext' ps rest (.ref δ.f1) [] rem s'' → kap (.send .none) s''
/-- how it ends -/
noncomputable def PP (n : Nat) (s₀ s₁ : Shared) : Prop := n = 0 ∧ ∃ h5 t5 nd ps rest ext, GSt (κ₀.upd h5 t5 nd) δ h₀ Lg ext ps rest .none [] [] s₁ ∧ Rel exts ext s₀ s₁
noncomputable abbrev RP : GenEnd := fun n s₀ r s₁ => r = .ok (.ret .none) ∧ PP κ₀ δ h₀ Lg exts n s₀ s₁
end
noncomputable abbrev cO (Lg : Addr) : Code := .whileLoop tokOut.1 tokOut.2 [] (tokEnv Lg)
noncomputable abbrev cI (Lg : Addr) : Code := .whileLoop tokIn.1 tokIn.2 [] (tokEnv Lg)
noncomputable abbrev cF (Lg : Addr) : Code := .func tokDef.2.1 (tokEnv Lg)
section
variable {w : World} {mean : ExcName → Option Value} {mg mb : Str → Option Value} {κ₀ : LxK} {δ : Defs} {h₀ : Heap} {Lg : Addr} {exts : Shared → List Addr} {all : List (Str × List Addr)}
  {dp un : Nat} {gd : Option (List Code)} {cn : Str} {cs : Scope} {L a : Addr} {ccd : Value} {cl : List (Str × Addr)} {outer : List Env} {A₀ : Around} {base : Heap}
/-- the frames under the inner while -/
noncomputable abbrev fsO (Lg : Addr) (kF : Result → Sem Fin) (p0 : Pos) : List Frame := [.ret kF none false [] (cF Lg) p0 []]
variable (w κ₀ δ h₀ Lg exts all dp un gd cn cs L a ccd cl outer) in
structure Exits (kF : Result → Sem Fin) (p0 : Pos) (fsI : List Frame) : Prop where
  sp : splitAtGen fsI = none
  gu : fsI.any Frame.guarded = false
  ov : (ktrTop dp un gd cn cs L a ccd cl outer).in1.over (cI Lg) fsI = (tokA dp un gd Lg (envX cn cs L a ccd cl :: outer))
  ex : ∀ m s₀ s, wpAny (model PySem.Challenge.pw_rk0008_01 w) (tokA dp un gd Lg (envX cn cs L a ccd cl :: outer)) (exec tokStep (tokEnv Lg)) (fun f s' => f = .next ∧ Seg (model PySem.Challenge.pw_rk0008_01 w) (ktrTop dp un gd cn cs L a ccd cl outer).in1 (RP κ₀ δ h₀ Lg exts) (YP κ₀ δ h₀ Lg exts all) m s₀ (cO Lg) (Model.den (model PySem.Challenge.pw_rk0008_01 w) (cO Lg)) (fsO Lg kF p0) s') (fun _ _ => False) s → Seg (model PySem.Challenge.pw_rk0008_01 w) (ktrTop dp un gd cn cs L a ccd cl outer).in1 (RP κ₀ δ h₀ Lg exts) (YP κ₀ δ h₀ Lg exts all) m s₀ (cI Lg) (.pure (.done .next)) fsI s
theorem wpAny_cong {M : Model} {A A' : Around} {α : Type} {m : Sem α} {Q : α → Shared → Prop} {E : Value → Shared → Prop} {s : Shared} (e : A = A') (h : wpAny M A' m Q E s) : wpAny M A m Q E s := e ▸ h
theorem outer_body {m : Nat} {s₀ s : Shared} {kF : Result → Sem Fin} {p0 : Pos}
    (ht : wpAny (model PySem.Challenge.pw_rk0008_01 w) (tokA dp un gd Lg (envX cn cs L a ccd cl :: outer)) (isTrue tokOut.1 (tokEnv Lg) (eval tokOut.1 (tokEnv Lg))) (fun b s' => b = true ∧ ∀ fsI, Exits w κ₀ δ h₀ Lg exts all dp un gd cn cs L a ccd cl outer kF p0 fsI → Seg (model PySem.Challenge.pw_rk0008_01 w) (ktrTop dp un gd cn cs L a ccd cl outer).in1 (RP κ₀ δ h₀ Lg exts) (YP κ₀ δ h₀ Lg exts all) m s₀ (cI Lg) (Model.den (model PySem.Challenge.pw_rk0008_01 w) (cI Lg)) fsI s') (fun _ _ => False) s) :
    Seg (model PySem.Challenge.pw_rk0008_01 w) (ktrTop dp un gd cn cs L a ccd cl outer).in1 (RP κ₀ δ h₀ Lg exts) (YP κ₀ δ h₀ Lg exts all) m s₀ (cO Lg) (Model.den (model PySem.Challenge.pw_rk0008_01 w) (cO Lg)) (fsO Lg kF p0) s := by
  refine seg_whileLoop ?_
  refine wpAny_cong (A' := (tokA dp un gd Lg (envX cn cs L a ccd cl :: outer))) rfl ?_
  refine wpAny_mono ht (fun b s' hb => ?_) (fun _ _ f => f.elim)
  obtain ⟨rfl, h⟩ := hb
  rw [if_pos rfl]
  change Seg (model PySem.Challenge.pw_rk0008_01 w) (ktrTop dp un gd cn cs L a ccd cl outer).in1 (RP κ₀ δ h₀ Lg exts) (YP κ₀ δ h₀ Lg exts all) m s₀ (cO Lg) ((execs (_ :: tokStep :: []) (tokEnv Lg)).wrap _ _ id id) (fsO Lg kF p0) s'
  refine seg_execs_cons ?_
  refine seg_While fun p1 => ?_
  refine h _ ⟨rfl, rfl, rfl, fun m s₀ s hs => ?_⟩
  refine seg_leaf (.ok .next) ?_
  change Seg (model PySem.Challenge.pw_rk0008_01 w) (ktrTop dp un gd cn cs L a ccd cl outer).in1 (RP κ₀ δ h₀ Lg exts) (YP κ₀ δ h₀ Lg exts all) m s₀ (cO Lg) ((execs (tokStep :: []) (tokEnv Lg)).wrap _ _ id id) (fsO Lg kF p0) s
  refine seg_execs_cons ?_
  refine seg_wrap (wpAny_cong (A' := (tokA dp un gd Lg (envX cn cs L a ccd cl :: outer))) rfl (wpAny_mono hs (fun f s' hq => ?_) fun _ _ x => x.elim))
  obtain ⟨rfl, hq⟩ := hq
  exact seg_again rfl hq
theorem GSt.same {κ : LxK} {ext rest : List (Addr × Obj)} {ps : Array Value} {st : Value} {tbs : List Value} {rem : List Addr} {s s' : Shared} (g : GSt κ δ h₀ Lg ext ps rest st tbs rem s) (e : s'.heap = s.heap) : GSt κ δ h₀ Lg ext ps rest st tbs rem s' := by
  obtain ⟨a1, a2, a3, a4, a0, a5, a6⟩ := g
  exact ⟨a1, a2, a3, a4, a0, e ▸ a5, e ▸ a6⟩
theorem inner_exit {n : Nat} {κ : LxK} {s₀ s : Shared} {kF : Result → Sem Fin} {p0 : Pos} {fsI : List Frame} (hx : Exits w κ₀ δ h₀ Lg exts all dp un gd cn cs L a ccd cl outer kF p0 fsI) {ext rest : List (Addr × Obj)} {ps : Array Value} {st : Value} {rem : List Addr} (g : GSt κ δ h₀ Lg ext ps rest st [] rem s)
    (B : Below A₀ base (envX cn cs L a ccd cl :: outer) h₀) (X : (hd.heap_39 w.params).In h₀) (T : Top view loose mean mg mb h₀) (hd : dp + 20 < recursionLimit) (hu : un + 200 < cLine)
    (h : ∀ tk, wpAny (model PySem.Challenge.pw_rk0008_01 w) (tokA dp un gd Lg (envX cn cs L a ccd cl :: outer)) (exec tokStep (tokEnv Lg)) (fun f s' => f = .next ∧ Seg (model PySem.Challenge.pw_rk0008_01 w) (ktrTop dp un gd cn cs L a ccd cl outer).in1 (RP κ₀ δ h₀ Lg exts) (YP κ₀ δ h₀ Lg exts all) n s₀ (cO Lg) (Model.den (model PySem.Challenge.pw_rk0008_01 w) (cO Lg)) (fsO Lg kF p0) s') (fun _ _ => False) { s with toks := tk }) :
    Seg (model PySem.Challenge.pw_rk0008_01 w) (ktrTop dp un gd cn cs L a ccd cl outer).in1 (RP κ₀ δ h₀ Lg exts) (YP κ₀ δ h₀ Lg exts all) n s₀ (cI Lg) (Model.den (model PySem.Challenge.pw_rk0008_01 w) (cI Lg)) fsI s := by
  obtain ⟨l, hat, N⟩ := g.nw
  refine seg_whileLoop (wpAny_cong hx.ov (t_inner g.emx B X T hd hu g.fr hat N (Nat.zero_le _) fun tk => ?_))
  rw [if_neg (by decide)]
  exact hx.ex _ _ _ (h tk)
theorem outer_end {s₀ s : Shared} {kF : Result → Sem Fin} {p0 : Pos} {h5 : Int} {t5 : Tok} {nd : Nat} {ext rest : List (Addr × Obj)} {ps : Array Value} (g : GSt (κ₀.upd h5 t5 nd) δ h₀ Lg ext ps rest .none [] [] s) (r : Rel exts ext s₀ s)
    (B : Below A₀ base (envX cn cs L a ccd cl :: outer) h₀) (X : (hd.heap_39 w.params).In h₀) (T : Top view loose mean mg mb h₀) (hd : dp + 20 < recursionLimit) (hu : un + 200 < cLine)
    (hend : ∀ s₀ s, PP κ₀ δ h₀ Lg exts 0 s₀ s → Seg (model PySem.Challenge.pw_rk0008_01 w) (ktrTop dp un gd cn cs L a ccd cl outer).in1 (RP κ₀ δ h₀ Lg exts) (YP κ₀ δ h₀ Lg exts all) 0 s₀ (cO Lg) (.pure (.done .next)) (fsO Lg kF p0) s) : Seg (model PySem.Challenge.pw_rk0008_01 w) (ktrTop dp un gd cn cs L a ccd cl outer).in1 (RP κ₀ δ h₀ Lg exts) (YP κ₀ δ h₀ Lg exts all) 0 s₀ (cO Lg) (Model.den (model PySem.Challenge.pw_rk0008_01 w) (cO Lg)) (fsO Lg kF p0) s := by
  obtain ⟨l, hat, N⟩ := g.nw
  refine seg_whileLoop (wpAny_cong (A' := (tokA dp un gd Lg (envX cn cs L a ccd cl :: outer))) rfl (t_outer0 g.emx B X T hd hu g.fr N fun tk => ?_))
  rw [if_neg (by decide)]
  exact hend _ _ ⟨rfl, h5, t5, nd, ps, rest, ext, g.same rfl, ⟨r.at_, r.keys, r.gens, r.drawn, r.os⟩⟩
theorem inner_seg {kF : Result → Sem Fin} {p0 : Pos} (hend : ∀ s₀ s, PP κ₀ δ h₀ Lg exts 0 s₀ s → Seg (model PySem.Challenge.pw_rk0008_01 w) (ktrTop dp un gd cn cs L a ccd cl outer).in1 (RP κ₀ δ h₀ Lg exts) (YP κ₀ δ h₀ Lg exts all) 0 s₀ (cO Lg) (.pure (.done .next)) (fsO Lg kF p0) s)
    (B : Below A₀ base (envX cn cs L a ccd cl :: outer) h₀) (X : (hd.heap_39 w.params).In h₀) (T : Top view loose mean mg mb h₀) (hd : dp + 20 < recursionLimit) (hu : un + 200 < cLine) {h5 : Int} {t5 : Tok} {nd : Nat} :
    ∀ (tl : List (Str × List Addr)) (rem : List Addr) (s₀ s : Shared) (ext rest : List (Addr × Obj)) (ps : Array Value) (fsI : List Frame), Toks κ₀.sg rem tl → (∃ pre, all = pre ++ tl) → GSt (κ₀.upd h5 t5 nd) δ h₀ Lg ext ps rest (.ref δ.f1) [] rem s → Rel exts ext s₀ s → Exits w κ₀ δ h₀ Lg exts all dp un gd cn cs L a ccd cl outer kF p0 fsI →
      Seg (model PySem.Challenge.pw_rk0008_01 w) (ktrTop dp un gd cn cs L a ccd cl outer).in1 (RP κ₀ δ h₀ Lg exts) (YP κ₀ δ h₀ Lg exts all) tl.length s₀ (cI Lg) (Model.den (model PySem.Challenge.pw_rk0008_01 w) (cI Lg)) fsI s := by
  intro tl
  induction tl with
  | nil =>
    intro rem s₀ s ext rest ps fsI ht hall g r hx
    cases ht
    refine inner_exit hx g B X T hd hu fun tk => ?_
    have g1 := g.same (s' := { s with toks := tk }) rfl
    obtain ⟨l, hat, N⟩ := g1.nw
    refine t_step_end g1.emx B X T hd hu g1.fr hat N g1.stx fun h' tk' l' hat' F' N' => ⟨rfl, outer_body ?_⟩
    obtain ⟨c2, oc2, vs2, tt2, doc2, pm2, ct2, hf0, _⟩ := g.stx.f0
    refine t_outer1 g1.emx B X T hd hu F' N' (At.tail hat' _ (.tail _ hf0)) fun tk2 => ⟨rfl, fun fsI' hx' => ?_⟩
    refine inner_exit (rem := []) hx' ⟨g.em, g.sti, g.exo, g.off, g.sub, F', l', hat', N'⟩ B X T hd hu fun tk3 => ?_
    refine t_step_stop g1.emx B X T hd hu F' N' g1.stx (fun p hp => At.tail hat' p (.tail _ hp)) fun h'' tk4 F'' N'' => ⟨rfl, ?_⟩
    exact outer_end ⟨g.em, g.sti, g.exo, g.off, g.sub, F'', l', hat', N''⟩ ⟨r.at_, r.keys, r.gens, r.drawn, r.os⟩ B X T hd hu hend
  | cons k tl ih =>
    intro rem s₀ s ext rest ps fsI ht hall g r hx
    obtain ⟨c, rr, cr, rem', hrem, hdot, hk, hnum, ht'⟩ : ∃ c rr cr rem', rem = c :: rr ∧ (κ₀.sg c ∈ (Str.ofString "0123456789").cps.toList → ∀ e q vs, Lex1 κ₀.sg (c :: rr) e q vs → ∀ c t, (q.dropWhile fun c => decide (κ₀.sg c ∈ vs.cps.toList)) = c :: t → κ₀.sg c ≠ 46) ∧
        k = (if κ₀.sg c ∈ (Str.ofString "0123456789").cps.toList then Str.ofString "NUMBER" else Str.ofString "ONE", c :: cr) ∧
        (κ₀.sg c ∈ (Str.ofString "0123456789").cps.toList ∧ (∀ cts q, LexNum κ₀.sg (c :: rr) cts q → cts = c :: cr ∧ q = rem') ∨ ¬ κ₀.sg c ∈ (Str.ofString "0123456789").cps.toList ∧ cr = [] ∧ rem' = rr) ∧ Toks κ₀.sg rem' tl := by
      cases ht with
      | one hn ht => exact ⟨_, _, [], _, rfl, fun h => absurd h hn, by rw [if_neg hn], .inr ⟨hn, rfl, rfl⟩, ht⟩
      | num hd hdot hn ht => exact ⟨_, _, _, _, rfl, fun _ => hdot, by rw [if_pos hd], .inl ⟨hd, hn⟩, ht⟩
    subst hrem
    refine inner_exit hx g B X T hd hu fun tk => ?_
    have g1 := g.same (s' := { s with toks := tk }) rfl
    obtain ⟨l, hat, N⟩ := g1.nw
    have hcm9 : c ∈ κ₀.cs := hat.rem c (.head _)
    refine t_step_start g1.emx B X T hd hu g1.fr hat N g1.stx hdot fun h' gn' tk' l' cts r9 ps' new tok hkind nw hat' G' F' N' => ⟨rfl, outer_body ?_⟩
    have hc : cts = c :: cr ∧ r9 = rem' ∧ TokIn new tok k.1 ⟨(cts.map κ₀.sg).toArray⟩ (κ₀.lo c) := by
      rcases hkind with ⟨hd1, hl, hti⟩ | ⟨hd1, hl, hr, hti⟩
      · rcases hnum with ⟨_, hn⟩ | ⟨hn, _⟩
        · obtain ⟨e1, e2⟩ := hn _ _ hl
          exact ⟨e1, e2, by rw [hk]; simp only [if_pos hd1]; exact hti⟩
        · exact absurd hd1 hn
      · rcases hnum with ⟨hn, _⟩ | ⟨_, hn, hn2⟩
        · exact absurd hn hd1
        · exact ⟨by rw [hl, hn], by rw [hr, hn2], by rw [hk]; simp only [if_neg hd1]; exact hti⟩
    obtain ⟨rfl, rfl, hti⟩ := hc
    have em' := nw.em g1.emx
    have st' : StartIn (new ++ (ext ++ rest)) κ₀.x δ.f0 δ.f1 δ.xc δ.sc δ.tc δ.ox δ.os δ.ot := g1.stx.sub fun _ hp => List.mem_append_right _ hp
    obtain ⟨c2, oc2, vs2, tt2, doc2, pm2, ct2, hf1, _⟩ := st'.f1
    refine t_outer1 em' B X T hd hu F' N' (At.tail hat' _ (.tail _ hf1)) fun tk2 => ⟨rfl, fun fsI' hx' => ?_⟩
    refine seg_whileLoop (wpAny_cong hx'.ov (t_inner em' B X T hd hu F' hat' N' (show 1 ≤ 1000 by decide) fun tk3 => ?_))
    rw [if_pos (show (!([Value.ref tok] : List Value).isEmpty) = true from rfl)]
    change Seg (model PySem.Challenge.pw_rk0008_01 w) (ktrTop dp un gd cn cs L a ccd cl outer).in1 (RP κ₀ δ h₀ Lg exts) (YP κ₀ δ h₀ Lg exts all) (tl.length + 1) s₀ (cI Lg) ((execs (.Expr (.Yield (some tokPop) _) _ :: []) (tokEnv Lg)).wrap _ _ id id) fsI' _
    refine seg_execs_cons ?_
    refine seg_Expr_Yield hx'.sp rfl hx'.gu ?_
    refine wpAny_cong hx'.ov ?_
    refine t_pop em' B X T hd hu F' hat' N' fun h'' tk4 l'' F'' hat'' N'' => ?_
    intro kap hkap
    have sub2 : ∀ p ∈ (225, tabObj ps') :: (ext ++ (new ++ rest)), p ∈ (225, tabObj ps') :: (new ++ (ext ++ rest)) := fun p hp => by
      rcases List.mem_cons.mp hp with rfl | hp
      · exact .head _
      · refine .tail _ ?_
        show p ∈ new ++ (ext ++ rest)
        simp only [List.mem_append] at hp ⊢
        rcases hp with h | h | h
        · exact .inr (.inl h)
        · exact .inl h
        · exact .inr (.inr h)
    have g2 : GSt (κ₀.upd h5 t5 nd) δ h₀ Lg ext ps' (new ++ rest) (.ref δ.f1) [] r9 { s with heap := h'', gens := gn', toks := tk4 } := by
      refine ⟨LxK.New.em ⟨nw.tab, nw.off, fun p hp q hq => nw.above p hp q (List.mem_append_right _ hq)⟩ g.em, g.sti.sub fun _ hp => List.mem_append_right _ hp, g.exo, fun p hp q hq => ?_, fun p hp => List.mem_append_right _ (g.sub p hp), F'', At.perm hat'' N'' sub2⟩
      rcases List.mem_append.mp hp with hp | hp
      · exact fun e => Nat.lt_irrefl _ (e ▸ nw.above p hp q (List.mem_append_left _ hq) : @LT.lt Nat _ q.1 q.1)
      · exact g.off p hp q hq
    obtain ⟨pre, hpre⟩ := hall
    refine ⟨h5, t5, nd, ps', new ++ rest, ext, k, tl, r9, tok, ⟨pre, hpre⟩, rfl, ht', rfl, ?_, g2, ⟨r.at_, r.keys, r.gens.trans G', r.drawn, r.os⟩, fun ext' s'' hk' g3 => hkap _ _ ?_⟩
    · rw [hk]; rw [hk] at hti
      exact ⟨c, cr, rfl, hcm9, hti.sub fun _ hp => List.mem_append_left _ hp⟩
    · exact seg_again rfl (ih r9 s'' s'' ext' _ _ fsI' ht' ⟨pre ++ [k], by rw [hpre, List.append_assoc]; rfl⟩ g3 (g3.rel hk') hx')
end
end
section
open PySem PySem.W PyProof.Rows PySem.Calls
set_option maxRecDepth 100000
set_option maxHeartbeats 400000


noncomputable def tokS1 : Stmt := tokDef.2.1.getD 0 default
noncomputable def tokS2 : Stmt := tokDef.2.1.getD 1 default
noncomputable abbrev tokM0 (κ : LxK) (f1 : Addr) : Str → Option Value := fun y => List.lookup y [(Str.ofString "start_state", .ref f1), (Str.ofString "characters", .ref κ.it), (Str.ofString "self", .ref κ.x)]
/-- the lexer's ledger ahead of tokenize -/
noncomputable abbrev preLed (κ : LxK) (ntb npb nct : Nat) (oit : Obj) (ps : Array Value) (rest : List (Addr × Obj)) : List (Addr × Obj) := ((κ.x, instObj 390 κ.dx) :: (κ.dx, dictOf [⟨κ.h1, .str (Str.ofString "token_buffer") κ.t1, .ref κ.tb⟩, ⟨κ.h2, .str (Str.ofString "pushed_back") κ.t2, .ref κ.pb⟩, ⟨κ.h3, .str (Str.ofString "current_text") κ.t3, .ref κ.ct⟩, ⟨κ.h4, .str (Str.ofString "coptions") κ.t4, κ.co⟩] 4) :: (κ.tb, PySem.W.listOf ([] : List Value).toArray ntb) :: (κ.pb, PySem.W.listOf ([] : List Value).toArray npb) :: (κ.ct, PySem.W.listOf ([] : List Value).toArray nct) :: (κ.it, oit) :: (225, tabObj ps) :: rest)
theorem t_s1 {w : World} {mean : ExcName → Option Value} {mg mb : Str → Option Value} {κ : LxK} {rest : List (Addr × Obj)} {ps : Array Value} (em : κ.Em ps rest) {dp un : Nat} {gd : Option (List Code)} {Lg : Addr} {outer : List Env} {A₀ : Around} {base h₀ : Heap} {s : Shared} {E : Value → Shared → Prop} (B : Below A₀ base outer h₀) (X : (hd.heap_39 w.params).In h₀) (T : Top view loose mean mg mb h₀) (hd : dp + 20 < recursionLimit) (hu : un + 200 < cLine) (hdx : ∀ p ∈ rest, p.1 ≠ κ.dx) {f1 : Addr} (F : Fr h₀ Lg s.heap (tokM0 κ f1)) {ntb npb nct : Nat} {oit : Obj} (N : News h₀ Lg s.heap (preLed κ ntb npb nct oit ps rest)) {Q : Flow → Shared → Prop}
    (h : ∀ h' tk' h5 t5 n, Fr h₀ Lg h' (tokM0 κ f1) → News h₀ Lg h' ((κ.upd h5 t5 n).led ((225, tabObj ps) :: rest) [] ntb [] npb [] nct oit) → Q .next { s with heap := h', toks := tk' }) : wpAny (model PySem.Challenge.pw_rk0008_01 w) (tokA dp un gd Lg outer) (exec tokS1 (tokEnv Lg)) Q E s := by
  unfold preLed at N
  have ok9 := em.ok
  have low9 := em.low
  have o1 := ok9.o1
  have o2 := ok9.o2
  have o3 := ok9.o3
  have o4 := ok9.o4
  have o5 := ok9.o5
  have hchd := codeHd_of_K (c := 229) (P := 225) X (by kernel_rfl)
  have off6 : OwnOff rest [225, κ.dx, κ.tb, κ.pb, κ.ct, κ.it] := fun p hp b hb => by
    rcases List.mem_cons.mp hb with rfl | hb
    · exact em.off p hp 225 (.head _)
    · rcases List.mem_cons.mp hb with rfl | hb
      · exact hdx p hp
      · exact ok9.off p (.tail _ hp) b hb
  have eL : tokDef = tokDef := rfl
  conv at eL => rhs; whnf
  have eU : tokS1 = tokS1 := rfl
  conv at eU => rhs; whnf
  rw [eU]
  unfold tokA tokEnv
  rw [eL]
  dsimp only
  k_steps
  rename Fr _ _ _ _ => F8
  rename News _ _ _ _ => N8
  exact h _ _ (PyData.keyHash w.params (Str.ofString "characters")) (s.toks + 1) 5 F8 N8
theorem t_s2 {w : World} {mean : ExcName → Option Value} {mg mb : Str → Option Value} {κ : LxK} {rest : List (Addr × Obj)} {ps : Array Value} (em : κ.Em ps rest) {dp un : Nat} {gd : Option (List Code)} {Lg : Addr} {outer : List Env} {A₀ : Around} {base h₀ : Heap} {s : Shared} {E : Value → Shared → Prop} (B : Below A₀ base outer h₀) (X : (hd.heap_39 w.params).In h₀) (T : Top view loose mean mg mb h₀) (hd : dp + 20 < recursionLimit) (hu : un + 200 < cLine) {f1 : Addr} (F : Fr h₀ Lg s.heap (tokM0 κ f1)) {l : List (Addr × Obj)} (N : News h₀ Lg s.heap l) {Q : Flow → Shared → Prop}
    (h : ∀ h' tk', Fr h₀ Lg h' (tokM κ f1 (.ref f1)) → News h₀ Lg h' l → Q .next { s with heap := h', toks := tk' }) : wpAny (model PySem.Challenge.pw_rk0008_01 w) (tokA dp un gd Lg outer) (exec tokS2 (tokEnv Lg)) Q E s := by
  have ok9 := em.ok
  have low9 := em.low
  have o1 := ok9.o1
  have o2 := ok9.o2
  have o3 := ok9.o3
  have o4 := ok9.o4
  have o5 := ok9.o5
  have hchd := codeHd_of_K (c := 229) (P := 225) X (by kernel_rfl)
  have off6 : OwnOff rest [225, κ.tb, κ.pb, κ.ct, κ.it] := fun p hp b hb => by
    rcases List.mem_cons.mp hb with rfl | hb
    · exact em.off p hp 225 (.head _)
    · exact ok9.off p (.tail _ hp) b hb
  have eL : tokDef = tokDef := rfl
  conv at eL => rhs; whnf
  have eU : tokS2 = tokS2 := rfl
  conv at eU => rhs; whnf
  rw [eU]
  unfold tokA tokEnv
  rw [eL]
  dsimp only
  k_steps
  rename Fr _ _ _ _ => F8
  rename News _ _ _ _ => N8
  exact h _ _ F8 N8
theorem LxK.Em.updK {κ : LxK} {ps : Array Value} {rest : List (Addr × Obj)} (e : κ.Em ps rest) (h5 : Int) (t5 : Tok) (n : Nat) : (κ.upd h5 t5 n).Em ps rest :=
  ⟨⟨e.ok.o1, e.ok.o2, e.ok.o3, e.ok.o4, e.ok.o5, e.ok.off, e.ok.cl, e.ok.few, e.ok.chars, e.ok.locs⟩, e.tab, e.low, e.off⟩
section
variable {w : World} {mean : ExcName → Option Value} {mg mb : Str → Option Value} {κ₀ : LxK} {δ : Defs} {h₀ : Heap} {Lg : Addr} {exts : Shared → List Addr} {all : List (Str × List Addr)}
  {dp un : Nat} {gd : Option (List Code)} {cn : Str} {cs : Scope} {L a : Addr} {ccd : Value} {cl : List (Str × Addr)} {outer : List Env} {A₀ : Around} {base : Heap}
/-- the first segment: from the generator's start -/
theorem fresh_seg (B : Below A₀ base (envX cn cs L a ccd cl :: outer) h₀) (X : (hd.heap_39 w.params).In h₀) (T : Top view loose mean mg mb h₀) (hd : dp + 20 < recursionLimit) (hu : un + 200 < cLine)
    {s : Shared} {ext rest : List (Addr × Obj)} {ps : Array Value} (em : κ₀.Em ps rest) (sti : StartIn rest κ₀.x δ.f0 δ.f1 δ.xc δ.sc δ.tc δ.ox δ.os δ.ot) (exo : OwnOff ext [225, κ₀.tb, κ₀.pb, κ₀.ct, κ₀.it]) (off : ∀ p ∈ rest, ∀ q ∈ ext, p.1 ≠ q.1) (sub : ∀ p ∈ δ.keep, p ∈ rest) (hkeys : ext.map (·.1) = exts s) (hdx : ∀ p ∈ ext ++ rest, p.1 ≠ κ₀.dx)
    (F : Fr h₀ Lg s.heap (tokM0 κ₀ δ.f1)) {ntb npb nct : Nat} {oit : Obj} (N : News h₀ Lg s.heap (preLed κ₀ ntb npb nct oit ps (ext ++ rest))) (hv : LiveIt oit κ₀.cl 0) (ht : Toks κ₀.sg κ₀.cs all) :
    Seg (model PySem.Challenge.pw_rk0008_01 w) (ktrTop dp un gd cn cs L a ccd cl outer).in1 (RP κ₀ δ h₀ Lg exts) (YP κ₀ δ h₀ Lg exts all) all.length s (cF Lg) (Model.den (model PySem.Challenge.pw_rk0008_01 w) (cF Lg)) [] s := by
  refine seg_func ?_
  change Seg (model PySem.Challenge.pw_rk0008_01 w) (ktrTop dp un gd cn cs L a ccd cl outer).in1 (RP κ₀ δ h₀ Lg exts) (YP κ₀ δ h₀ Lg exts all) all.length s (cF Lg) ((execs (tokS1 :: tokS2 :: .While tokOut.1 tokOut.2 [] _ :: []) (tokEnv Lg)).wrap _ _ id id) [] s
  have em2 : κ₀.Em ps (ext ++ rest) := em.grow em.tab exo
  refine seg_execs_cons (seg_wrap (wpAny_cong (A' := (tokA dp un gd Lg (envX cn cs L a ccd cl :: outer))) rfl (t_s1 em2 B X T hd hu hdx F N fun h1 tk1 h5 t5 nd F1 N1 => ?_)))
  refine seg_execs_cons (seg_wrap (wpAny_cong (A' := (tokA dp un gd Lg (envX cn cs L a ccd cl :: outer))) rfl (t_s2 em2 B X T hd hu F1 N1 fun h2 tk2 F2 N2 => ?_)))
  refine seg_execs_cons (seg_While fun p0 => ?_)
  refine outer_body ?_
  have sti2 : StartIn (ext ++ rest) κ₀.x δ.f0 δ.f1 δ.xc δ.sc δ.tc δ.ox δ.os δ.ot := sti.sub fun _ hp => List.mem_append_right _ hp
  obtain ⟨c2, oc2, vs2, tt2, doc2, pm2, ct2, hf1, _⟩ := sti2.f1
  have em3 := em.updK h5 t5 nd
  have hat : (κ₀.upd h5 t5 nd).At ((225, tabObj ps) :: (ext ++ rest)) [] [] κ₀.cs ((κ₀.upd h5 t5 nd).led ((225, tabObj ps) :: (ext ++ rest)) [] ntb [] npb [] nct oit) :=
    ⟨⟨_, _, _, _, _, rfl, by simpa using LxK.Strm.live (κ := κ₀.upd h5 t5 nd) 0 hv⟩, by simpa using em.ok.few, fun _ h => nomatch h⟩
  refine t_outer1 (em2.updK h5 t5 nd) B X T hd hu F2 N2 (At.tail hat _ (.tail _ hf1)) fun tk3 => ⟨rfl, fun fsI hx => ?_⟩
  refine inner_seg ?_ B X T hd hu (h5 := h5) (t5 := t5) (nd := nd) all κ₀.cs _ _ ext rest ps fsI ht ⟨[], rfl⟩ ⟨em3, sti, exo, off, sub, F2, _, hat, N2⟩ ⟨fun q hq => (N q ?_).1, hkeys, .refl _, rfl, rfl⟩ hx
  · intro s₀ s hp
    refine seg_leaf (.ok .next) ?_
    refine seg_end (.ok (.ret .none)) ⟨rfl, hp⟩
  · exact .tail _ (.tail _ (.tail _ (.tail _ (.tail _ (.tail _ (.tail _ (List.mem_append_left _ hq)))))))
end
end
section
open PySem PySem.W PyProof.Rows PySem.Calls
set_option maxRecDepth 100000
set_option maxHeartbeats 400000


/-- the generator object -/
noncomputable abbrev genObj (n : Nat) (a b : Tok) : Obj := { cls := .type "generator", data := .fields #[.int n 0, .str (Str.ofString "tokenize") a, .str (Str.ofString "HandLexerBase.tokenize") b] }
theorem tok_call {w : World} {mean : ExcName → Option Value} {mg mb : Str → Option Value} {x it f1 : Addr} {dp un : Nat} {gd : Option (List Code)} {cn : Str} {csn : List (Str × NameKind)} {csg csc : Bool} {csm : List (Str × Const)} {L a : Addr} {ccd : Value} {cl : List (Str × Addr)} {outer : List Env} {A₀ : Around} {base h₀ : Heap} {m : Str → Option Value} {s : Shared} {Q E : Value → Shared → Prop} {news : List (Addr × Obj)}
    (B : Below A₀ base outer h₀) (F : Fr h₀ L s.heap m) (X : (hd.heap_39 w.params).In h₀) (N : News h₀ L s.heap news) (T : Top view loose mean mg mb h₀) (hdp : dp + 20 < recursionLimit)
    (h : ∀ g Lg h' tk na nb, Below (ktrTop dp un gd cn ⟨ScopeKind.function, csn, csg, csc, csm⟩ L a ccd cl outer) base (envX cn ⟨ScopeKind.function, csn, csg, csc, csm⟩ L a ccd cl :: outer) g → (hd.heap_39 w.params).In g → Top view loose mean mg mb g →
      (∀ (hh : Heap) m' l, Fr g Lg hh m' → News g Lg hh l → Fr h₀ L hh m ∧ News h₀ L hh l) → Fr g Lg h' (fun y => List.lookup y [(Str.ofString "start_state", .ref f1), (Str.ofString "characters", .ref it), (Str.ofString "self", .ref x)]) → News g Lg h' ((Lg + 1, genObj s.gens.size na nb) :: news) → (∀ q ∈ news, q.1 < Lg) →
      Q (.ref (Lg + 1)) { s with heap := h', gens := s.gens.push (.fresh (cF Lg)), toks := tk }) :
    wpAny (model PySem.Challenge.pw_rk0008_01 w) (ktrTop dp un gd cn ⟨ScopeKind.function, csn, csg, csc, csm⟩ L a ccd cl outer) (call (.ref 208) [.ref x, .ref it, .ref f1]) Q E s := by
  have gx := fun R => groundX (R := R) (A := ktrTop dp un gd cn ⟨ScopeKind.function, csn, csg, csc, csm⟩ L a ccd cl outer) B F N rfl rfl rfl
  obtain ⟨FG, BG, st, _⟩ := gx (fun _ _ => True)
  have eL : tokDef = tokDef := rfl
  conv at eL => rhs; whnf
  have Xs := X.keeps F.keep
  have hK := Xs 208 _ (by k_is)
  refine wpAny_call (codeAny_call_generator (by show dp < recursionLimit; omega) hK rfl rfl rfl rfl (codeRec_of Xs (by k_is)) ?_)
  · refine (BindsTo.of_eq (binds := [(Str.ofString "self", .ref x), (Str.ofString "characters", .ref it), (Str.ofString "start_state", .ref f1)]) ?_) _ _ _ _ ?_
    · rfl
    · refine wpAny_newFunctionEnv ?_ ?_ (fun h₁ hns hsb => ?_) ?_
      · decide
      · exact locs rfl
      · have hold : ∀ b o, s.heap.get? b = some o → h₁.get? b = some o := fun b o e => hsb.extBut b o (Nat.ne_of_lt (Heap.lt_size e)) (Heap.get?_push_of_some _ e)
        have hL1 : s.heap.objs.size < h₁.objs.size := by obtain ⟨o, es, ep, e, _⟩ := hns; exact Heap.lt_size e
        have hsz : h₁.objs.size = s.heap.objs.size + 1 := by
          have := hsb.1
          rw [Heap.size_push] at this
          exact this
        refine ⟨(T.nolimit.keeps F.keep).keeps hold, ?_⟩
        have key := h (hideAll s.heap (news.map (·.1))) s.heap.objs.size (h₁.push (genObj s.gens.size (s.toks + 3) (s.toks + 3 + 1))) (s.toks + 3 + 1 + 1) (s.toks + 3) (s.toks + 3 + 1) BG (X.keeps st) (T.keeps st) ?_ ?_ ?_ ?_
        · rw [hsz]
          exact key
        · intro hh m' l F' N'
          obtain ⟨_, _, _, lv⟩ := gx (fun _ s' => Fr h₀ L s'.heap m ∧ News h₀ L s'.heap l)
          exact lv .none { s with heap := hh } ⟨_, m', l, F', N', fun x y => ⟨x, y⟩⟩
        · exact ⟨hns.push _, fun b o e => Heap.get?_push_of_some _ (hold b o (of_hideAll _ e)), Nat.le_of_eq (hideAll_size _ _)⟩
        · intro p hp
          rcases List.mem_cons.mp hp with rfl | hp
          · refine ⟨?_, Nat.succ_ne_self _, Heap.get?_none_of_le ?_⟩
            · rw [← hsz]; exact Heap.get?_push_size _ rfl
            · rw [hideAll_size]; exact Nat.le_succ _
          · exact ⟨Heap.get?_push_of_some _ (hold _ _ (N p hp).1), Nat.ne_of_lt (Heap.lt_size (N p hp).1), hideAll_none _ (List.mem_map_of_mem hp)⟩
        · exact fun q hq => Heap.lt_size (N q hq).1
      · rfl
end
section
open PySem PySem.W PyProof.Rows PySem.Calls
set_option maxRecDepth 100000
set_option maxHeartbeats 400000


/-- the law's statement got = [..] -/
noncomputable def gotStmt : Stmt := lawBody.getD 9 default
noncomputable def compOf : Stmt → Expr × Expr × Scope
  | .Assign _ (.ListComp e (⟨_, i, _, _⟩ :: _) s _) _ => (e, i, s)
  | _ => (.Constant .none 0 default, .Constant .none 0 default, default)
noncomputable def gotComp := compOf gotStmt
/-- a tuple as the law's list holds it -/
noncomputable abbrev quad (kd txt : Str) (row col : Int) (u1 u2 u3 u4 : Tok) : Obj := { cls := .type "tuple", data := .seq #[.str kd u1, .str txt u2, .int row u3, .int col u4] }

theorem elt_ok {w : World} {mean : ExcName → Option Value} {mg mb : Str → Option Value} {dp un : Nat} {gd : Option (List Code)} {cn : Str} {csn : List (Str × NameKind)} {csg csc : Bool} {csm : List (Str × Const)} {L a : Addr} {ccd : Value} {cl : List (Str × Addr)} {outer : List Env} {h₀ : Heap} {Lf : Addr} {m : Str → Option Value} {s : Shared} {Q E : Value → Shared → Prop} {rest : List (Addr × Obj)}
    (F : Fr h₀ Lf s.heap m) (X : (hd.heap_39 w.params).In h₀) (N : News h₀ Lf s.heap rest) (T : Top view loose mean mg mb h₀) (hdp : dp + 20 < recursionLimit) (hun : un + 200 < cLine)
    {C tok lo : Addr} {oC : Obj} {m₂ : Str → Option Value} (hC : LCg.NsObj oC m₂) (hx : m₂ (Str.ofString "t") = some (.ref tok)) (hm : (C, oC) ∈ rest) {kd txt : Str} {row col : Int} (ht : TokIn rest tok kd txt lo) (hl : LocIn rest lo row col)
    (h : ∀ h' tk d u1 u2 u3 u4, Fr h₀ Lf h' m → News h₀ Lf h' ((d, quad kd txt row col u1 u2 u3 u4) :: rest) → (∀ q ∈ rest, q.1 < d) → Q (.ref d) { s with heap := h', toks := tk }) :
    wpAny (model PySem.Challenge.pw_rk0008_01 w) (ktrTop dp un gd cn ⟨ScopeKind.function, csn, csg, csc, csm⟩ L a ccd cl outer) (eval gotComp.1 (compEnvC gotComp.2.2 [] C (envX cn ⟨ScopeKind.function, csn, csg, csc, csm⟩ L a ccd cl))) Q E s := by
  obtain ⟨d, tt1, tt2, ht1, ht2⟩ := ht
  obtain ⟨dl, tl1, tl2, tl3, tl4, hl1, hl2⟩ := hl
  have eU : gotComp = gotComp := rfl
  conv at eU => rhs; whnf
  rw [eU]
  dsimp only
  walk1
  k_steps
  rename Fr _ _ _ _ => F8
  rename News _ _ _ _ => N8
  exact h _ _ _ _ _ _ _ F8 N8 (by assumption)
/-- what the taker owns: its names, its list, the tuples in it -/
noncomputable def exs (C D : Addr) (s : Shared) : List Addr := C :: D :: (match s.heap.get? D with | some ⟨_, _, .seq vs _, _⟩ => vs.toList.filterMap (fun v => match v with | .ref a => some a | _ => none) | _ => [])
noncomputable abbrev refs (tups : List (Addr × Obj)) : List Value := tups.map fun p => Value.ref p.1
theorem exs_lst {C D : Addr} {s : Shared} {tups : List (Addr × Obj)} (h : s.heap.get? D = some (LCg.lst (refs tups))) : exs C D s = C :: D :: tups.map (·.1) := by
  unfold exs
  rw [h]
  congr 2
  show List.filterMap _ (refs tups) = _
  rw [List.filterMap_map]
  induction tups with
  | nil => rfl
  | cons p r ih => exact congrArg (p.1 :: ·) (List.filterMap_eq_map (f := fun p : Addr × Obj => p.1) ▸ rfl : _ = r.map (·.1))
theorem ext_eq {h : Heap} : ∀ {l l' : List (Addr × Obj)}, l.map (·.1) = l'.map (·.1) → (∀ q ∈ l, h.get? q.1 = some q.2) → (∀ q ∈ l', h.get? q.1 = some q.2) → l = l'
  | [], [], _, _, _ => rfl
  | [], _ :: _, e, _, _ => by cases e
  | _ :: _, [], e, _, _ => by cases e
  | p :: r, p' :: r', e, k, k' => by
    simp only [List.map_cons, List.cons.injEq] at e
    have e1 := k p (.head _)
    rw [e.1, k' p' (.head _)] at e1
    rw [ext_eq e.2 (fun q hq => k q (.tail _ hq)) fun q hq => k' q (.tail _ hq)]
    obtain ⟨a, o⟩ := p
    obtain ⟨a', o'⟩ := p'
    cases e.1
    cases e1
    rfl
/-- the law's tuples, one for each token -/
inductive Quads (κ : LxK) : List (Addr × Obj) → List (Str × List Addr) → Prop
  | nil : Quads κ [] []
  | snoc {ts : List (Addr × Obj)} {ks : List (Str × List Addr)} {d : Addr} {k : Str × List Addr} {c : Addr} {cr : List Addr} {u1 u2 u3 u4 : Tok} : Quads κ ts ks → k.2 = c :: cr → Quads κ (ts ++ [(d, quad k.1 ⟨(k.2.map κ.sg).toArray⟩ (κ.row c) (κ.col c) u1 u2 u3 u4)]) (ks ++ [k])
theorem Quads.length {κ : LxK} {ts : List (Addr × Obj)} {ks : List (Str × List Addr)} (h : Quads κ ts ks) : ts.length = ks.length := by
  induction h with
  | nil => rfl
  | snoc _ _ ih => simp [ih]
noncomputable def Others (gi : Nat) (gens : Array GenState) : Prop := ∀ i y, i ≠ gi → gens[i]? = some y → y.bare = true
theorem Others.up {gi : Nat} {a b : Array GenState} (h : Others gi a) (u : GensUp a b) : Others gi b := fun i y hi e => by
  by_cases hs : i < a.size
  · rw [u.same i hs] at e; exact h i y hi e
  · exact u.fresh i y (Nat.le_of_not_lt hs) e
theorem Others.set {gi : Nat} {s : Shared} (h : Others gi s.gens) (x : GenState) : Others gi (s.setGen gi x).gens := fun i y hi e => by
  have e' : (s.gens.setIfInBounds gi x)[i]? = some y := e
  rw [Array.getElem?_setIfInBounds_ne (Ne.symm hi)] at e'
  exact h i y hi e'
theorem TokIn.mk_sub {l l' : List (Addr × Obj)} {a : Addr} {ty val : Str} {lo : Addr} (h : TokIn l a ty val lo) (s : ∀ p ∈ l, p ∈ l') : TokIn l' a ty val lo := h.sub s
section
variable {w : World} {mean : ExcName → Option Value} {mg mb : Str → Option Value} {κ : LxK} {δ : Defs} {g h₀ : Heap} {Lg : Addr} {all : List (Str × List Addr)}
  {dp un : Nat} {gd : Option (List Code)} {cn : Str} {csn : List (Str × NameKind)} {csg csc : Bool} {csm : List (Str × Const)} {L a : Addr} {ccd : Value} {cl : List (Str × Addr)} {outer : List Env} {A₀ : Around} {base : Heap} {m : Str → Option Value}
variable (w κ δ g Lg all dp un gd cn csn csg csc csm L a ccd cl outer) in
/-- ahead of a turn -/
noncomputable def GotI (C D G : Addr) (gi : Nat) (s₂ : Shared) (n : Nat) (s : Shared) : Prop :=
  ∃ done tl tups oC mC gs, all = done ++ tl ∧ n = tl.length + 1 ∧ Quads κ tups done ∧ s.heap.get? C = some oC ∧ LCg.NsObj oC mC ∧ s.heap.get? D = some (LCg.lst (refs tups)) ∧ (∀ p ∈ tups, s.heap.get? p.1 = some p.2) ∧ (∀ p ∈ tups, @LT.lt Nat _ C p.1) ∧
    s.heap.IsGen G gi ∧ s.heap.NoLimit ∧ s.gens[gi]? = some gs ∧ Others gi s.gens ∧ s.drawn = s₂.drawn ∧ s.os = s₂.os ∧
    gs.Goes (model PySem.Challenge.pw_rk0008_01 w) (ktrTop dp un gd cn ⟨ScopeKind.function, csn, csg, csc, csm⟩ L a ccd cl outer).in1 (RP κ δ g Lg (exs C D)) (YP κ δ g Lg (exs C D) all) tl.length (.send .none) (s.setGen gi .running)
theorem got_turn (X : (hd.heap_39 w.params).In g) (T : Top view loose mean mg mb g) (hdp : dp + 20 < recursionLimit) (hun : un + 200 < cLine)
    {C D G : Addr} {na nb : Tok} {gi : Nat} {s₂ : Shared} (hDC : @LT.lt Nat _ D C) (hown : ∀ b ∈ [κ.x, κ.dx, κ.tb, κ.pb, κ.ct, κ.it, 225, Lg], @LT.lt Nat _ b D) (hgG : (G, genObj gi na nb) ∈ δ.keep) (hall9 : all.length ≤ 900) (hgC : g.get? C = none) (hgD : g.get? D = none)
    {px : Pos} (hx : gotComp.2.2.names.lookup (Str.ofString "t") = some .local) (hkind : gotComp.2.2.kind = .function) {R : Result → Shared → Prop}
    (hend : ∀ (tups : List (Addr × Obj)) ps rest h' gn' tk' mC m', Quads κ tups all → (∀ p ∈ δ.keep, p ∈ rest) → h'.Ns C mC → Fr g Lg h' m' → News g Lg h' ((D, LCg.lst (refs tups)) :: (tups ++ (225, tabObj ps) :: rest)) → (∀ p ∈ (D, LCg.lst (refs tups)) :: (tups ++ (225, tabObj ps) :: rest), p.1 ≠ C) →
      TabOne gxPos ps → Others gi gn' → gn'[gi]? = some .finished → R (.ok .next) { s₂ with heap := h', gens := gn', toks := tk' })
    (E9 : Value → Shared → Prop) (n : Nat) (s : Shared) (hI : GotI w κ δ g Lg all dp un gd cn csn csg csc csm L a ccd cl outer C D G gi s₂ n s) :
    wpAny (model PySem.Challenge.pw_rk0008_01 w) (ktrTop dp un gd cn ⟨ScopeKind.function, csn, csg, csc, csm⟩ L a ccd cl outer) (pyNext (.ref G)) (fun r s₁ => match r with
      | none => R (.ok .next) s₁
      | some v => wpAny (model PySem.Challenge.pw_rk0008_01 w) (ktrTop dp un gd cn ⟨ScopeKind.function, csn, csg, csc, csm⟩ L a ccd cl outer) (assign (.Name (Str.ofString "t") px) (compEnvC gotComp.2.2 [] C (envX cn ⟨ScopeKind.function, csn, csg, csc, csm⟩ L a ccd cl)) v) (fun _ s₂' => wpAny (model PySem.Challenge.pw_rk0008_01 w) (ktrTop dp un gd cn ⟨ScopeKind.function, csn, csg, csc, csm⟩ L a ccd cl outer) (eval gotComp.1 (compEnvC gotComp.2.2 [] C (envX cn ⟨ScopeKind.function, csn, csg, csc, csm⟩ L a ccd cl))) (fun x s₃ =>
          wpAny (model PySem.Challenge.pw_rk0008_01 w) (ktrTop dp un gd cn ⟨ScopeKind.function, csn, csg, csc, csm⟩ L a ccd cl outer) (call (.builtin "list.append") [.ref D, x]) (fun _ s₄ => ∃ m, m < n ∧ GotI w κ δ g Lg all dp un gd cn csn csg csc csm L a ccd cl outer C D G gi s₂ m s₄) E9 s₃) E9 s₂') E9 s₁) E9 s := by
  refine hideG fun H9 k9 => ?_
  obtain ⟨done, tl, tups, oC, mC, gs, hall, rfl, hq, hoC, hns, hD, htu, htl, hig, hnl, hgs, hoth, hdr, hos, hgo⟩ := hI
  refine k9 ?_
  clear k9
  have hkey : ∀ (ext : List (Addr × Obj)), Rel (exs C D) ext (s.setGen gi .running) s → True := fun _ _ => trivial
  have e0 : exs C D (s.setGen gi .running) = C :: D :: tups.map (·.1) := exs_lst hD
  have ext_is : ∀ {ext : List (Addr × Obj)} {s₁ : Shared}, Rel (exs C D) ext (s.setGen gi .running) s₁ → ext = (C, oC) :: (D, LCg.lst (refs tups)) :: tups := fun {ext s₁} r => by
    refine ext_eq (h := s.heap) (by rw [r.keys, e0]; rfl) r.at_ fun q hq => ?_
    rcases List.mem_cons.mp hq with rfl | hq
    · exact hoC
    · rcases List.mem_cons.mp hq with rfl | hq
      · exact hD
      · exact htu q hq
  refine wpAny_pyNext_gen (n := tl.length) rfl hnl (by show dp < recursionLimit; omega) hig hgs hgo ?_ ?_
  · intro v s₁ gs' P93
    refine hideG fun H9 k9 => ?_
    obtain ⟨h5, t5, nd, ps, rest, ext, k, tl0, rem, tok, ⟨pre, hpre⟩, hlen, hto, rfl, htk, g1, r1, hkap⟩ := P93
    refine k9 ?_
    clear k9
    have hext := ext_is r1
    subst hext
    obtain ⟨l1, hat1, N1⟩ := g1.nw
    have hE1 : ∀ q ∈ (C, oC) :: (D, LCg.lst (refs tups)) :: tups, s₁.heap.get? q.1 = some q.2 := fun q hq => (N1 q (At.tail hat1 _ (.tail _ (List.mem_append_left _ hq)))).1
    cases tl with
    | nil => exact (hkap _ s₁ (by rw [exs_lst (C := C) (hE1 (D, _) (.tail _ (.head _)))]; rfl) g1).elim
    | cons k' tl' =>
      have hk : k = k' ∧ tl0 = tl' := by
        have e1 : done ++ k' :: tl' = pre ++ k :: tl0 := hall.symm.trans hpre
        have e2 := List.append_inj_right' e1 (by simp only [List.length_cons] at hlen ⊢; omega)
        exact ⟨(List.cons.inj e2).1.symm, (List.cons.inj e2).2.symm⟩
      obtain ⟨rfl, rfl⟩ := hk
      have hC1 := hE1 (C, oC) (.head _)
      have hgen1 : s₁.gens[gi]? = some .running := by
        have e1 := setGen_self (x := .running) hgs
        rw [r1.gens.same gi ((Array.getElem?_eq_some_iff.mp e1).1)]
        exact e1
      have hown2 : ∀ b ∈ [κ.x, κ.dx, κ.tb, κ.pb, κ.ct, κ.it, 225, Lg], b ≠ C := fun b hb => Nat.ne_of_lt (Nat.lt_trans (hown b hb) hDC)
      have hown3 : ∀ b ∈ [κ.x, κ.dx, κ.tb, κ.pb, κ.ct, κ.it, 225, Lg], b ≠ D := fun b hb => Nat.ne_of_lt (hown b hb)
      have hDCn : D ≠ C := Nat.ne_of_lt hDC
      refine wpAny_assign_Name (wpAny_storeName_local (lookup_relabel_local hx) (hns.ns hC1) (fun h3 hn3 hs3 => ?_) (by simp [compEnvC, relabel, hkind]))
      obtain ⟨oC3, hC3, hns3⟩ := LCg.ns_obj hn3
      refine hideG fun H9 k9 => ?_
      obtain ⟨⟨ntb, pbs, npb, nct, oit, rfl, hs⟩, few, hm⟩ := hat1
      refine k9 ?_
      clear k9
      have F3 := g1.fr.change hs3 (hown2 Lg (by repeat (first | exact .head _ | apply List.Mem.tail))).symm hgC
      have N3 : News g Lg h3 ((κ.upd h5 t5 nd).led ((225, tabObj ps) :: (((C, oC3) :: (D, LCg.lst (refs tups)) :: tups) ++ rest)) [] ntb pbs npb [] nct oit) := by
        have key : ∀ p ∈ (κ.upd h5 t5 nd).led ((225, tabObj ps) :: (((C, oC3) :: (D, LCg.lst (refs tups)) :: tups) ++ rest)) [] ntb pbs npb [] nct oit, p = (C, oC3) ∨ (p ∈ (κ.upd h5 t5 nd).led ((225, tabObj ps) :: (((C, oC) :: (D, LCg.lst (refs tups)) :: tups) ++ rest)) [] ntb pbs npb ([].map Value.ref) nct oit ∧ p.1 ≠ C) := by
          intro p hp
          simp only [LxK.led, List.mem_cons, List.mem_append, List.cons_append] at hp ⊢
          rcases hp with rfl | rfl | rfl | rfl | rfl | rfl | rfl | rfl | rfl | hp | hp
          · exact .inr ⟨.inl rfl, hown2 _ (by repeat (first | exact .head _ | apply List.Mem.tail))⟩
          · exact .inr ⟨.inr (.inl rfl), hown2 _ (by repeat (first | exact .head _ | apply List.Mem.tail))⟩
          · exact .inr ⟨.inr (.inr (.inl rfl)), hown2 _ (by repeat (first | exact .head _ | apply List.Mem.tail))⟩
          · exact .inr ⟨.inr (.inr (.inr (.inl rfl))), hown2 _ (by repeat (first | exact .head _ | apply List.Mem.tail))⟩
          · exact .inr ⟨.inr (.inr (.inr (.inr (.inl rfl)))), hown2 _ (by repeat (first | exact .head _ | apply List.Mem.tail))⟩
          · exact .inr ⟨.inr (.inr (.inr (.inr (.inr (.inl rfl))))), hown2 _ (by repeat (first | exact .head _ | apply List.Mem.tail))⟩
          · exact .inr ⟨.inr (.inr (.inr (.inr (.inr (.inr (.inl rfl)))))), hown2 _ (by repeat (first | exact .head _ | apply List.Mem.tail))⟩
          · exact .inl rfl
          · exact .inr ⟨.inr (.inr (.inr (.inr (.inr (.inr (.inr (.inr (.inl rfl)))))))), hDCn⟩
          · exact .inr ⟨.inr (.inr (.inr (.inr (.inr (.inr (.inr (.inr (.inr (.inl hp))))))))), (Nat.ne_of_lt (htl p hp)).symm⟩
          · exact .inr ⟨.inr (.inr (.inr (.inr (.inr (.inr (.inr (.inr (.inr (.inr hp))))))))), g1.off p hp (C, oC) (.head _)⟩
        intro p hp
        rcases key p hp with rfl | ⟨hin, hne⟩
        · exact ⟨hC3, (hown2 Lg (by repeat (first | exact .head _ | apply List.Mem.tail))).symm, hgC⟩
        · exact ⟨hs3.extBut _ _ hne (N1 p hin).1, (N1 p hin).2⟩
      have tail3 : ∀ p ∈ ((C, oC3) :: (D, LCg.lst (refs tups)) :: tups) ++ rest, p ∈ (κ.upd h5 t5 nd).led ((225, tabObj ps) :: (((C, oC3) :: (D, LCg.lst (refs tups)) :: tups) ++ rest)) [] ntb pbs npb [] nct oit := fun p hp => .tail _ (.tail _ (.tail _ (.tail _ (.tail _ (.tail _ (.tail _ hp))))))
      refine hideG fun H9 k9 => ?_
      obtain ⟨c, cr, hk2, hcm, hti⟩ := htk
      refine k9 ?_
      clear k9
      have hrest3 : ∀ p ∈ rest, p ∈ (κ.upd h5 t5 nd).led ((225, tabObj ps) :: (((C, oC3) :: (D, LCg.lst (refs tups)) :: tups) ++ rest)) [] ntb pbs npb [] nct oit := fun p hp => tail3 p (List.mem_append_right _ hp)
      refine elt_ok (s := { s₁.setGen gi gs' with heap := h3, toks := _ }) F3 X N3 T hdp hun hns3 (by simp) (tail3 _ (.head _)) (hti.sub hrest3) ((g1.em.ok.locs c hcm).tl.sub hrest3) fun h4 tk4 d u1 u2 u3 u4 F4 N4 hfr => ?_
      have zD := (N4 _ (.tail _ (tail3 (D, LCg.lst (refs tups)) (.tail _ (.head _))))).1
      have hlen9 : tups.length ≤ 1000 := by
        rw [hq.length]
        have := congrArg List.length hall
        simp only [List.length_append, List.length_cons] at this
        omega
      refine append_at (hsz := by show (refs tups).toArray.size ≤ sizeLine; rw [List.size_toArray, List.length_map]; exact Nat.le_trans hlen9 (by decide)) zD fun h5' hs5 hD5 => ?_
      have hDd : @LT.lt Nat _ D d := hfr (D, LCg.lst (refs tups)) (tail3 _ (.tail _ (.head _)))
      have hCd : @LT.lt Nat _ C d := hfr (C, oC3) (tail3 _ (.head _))
      have F5 := F4.change hs5 (hown3 Lg (by repeat (first | exact .head _ | apply List.Mem.tail))).symm hgD
      have hD5' : h5'.get? D = some (LCg.lst (refs (tups ++ [(d, quad k.1 ⟨(k.2.map κ.sg).toArray⟩ (κ.row c) (κ.col c) u1 u2 u3 u4)]))) := by
        rw [hD5]
        have e : refs (tups ++ [(d, quad k.1 ⟨(k.2.map κ.sg).toArray⟩ (κ.row c) (κ.col c) u1 u2 u3 u4)]) = refs tups ++ [.ref d] := by simp [refs]
        rw [e]
        exact congrArg some (LCg.lst_snoc _ _)
      have up5 : ∀ p ∈ ((C, oC3) :: tups) ++ rest, h5'.get? p.1 = some p.2 := fun p hp => by
        have hin : p ∈ ((C, oC3) :: (D, LCg.lst (refs tups)) :: tups) ++ rest := by
          simp only [List.mem_append, List.mem_cons] at hp ⊢
          rcases hp with (rfl | hp) | hp
          · exact .inl (.inl rfl)
          · exact .inl (.inr (.inr hp))
          · exact .inr hp
        refine hs5.extBut _ _ ?_ (N4 p (.tail _ (tail3 p hin))).1
        simp only [List.mem_append, List.mem_cons] at hp
        rcases hp with (rfl | hp) | hp
        · exact hDCn.symm
        · exact (Nat.ne_of_lt (Nat.lt_trans hDC (htl p hp))).symm
        · exact g1.off p hp (D, LCg.lst (refs tups)) (.tail _ (.head _))
      have hdD : d ≠ D := (Nat.ne_of_lt hDd).symm
      have hd5 := hs5.extBut _ _ hdD (N4 _ (.head _)).1
      refine ⟨tl0.length + 1, by simp, done ++ [k], tl0, tups ++ [(d, quad k.1 ⟨(k.2.map κ.sg).toArray⟩ (κ.row c) (κ.col c) u1 u2 u3 u4)], oC3, _, gs', by rw [hall, List.append_assoc]; rfl, rfl, .snoc hq hk2, up5 (C, oC3) (.head _), hns3, hD5', ?_, ?_, ?_, T.nolimit.keeps F5.keep, ?_, ?_, r1.drawn.trans hdr, r1.os.trans hos, ?_⟩
      · intro p hp
        rcases List.mem_append.mp hp with hp | hp
        · exact up5 p (List.mem_append_left _ (.tail _ hp))
        · rw [List.mem_singleton.mp hp]; exact hd5
      · intro p hp
        rcases List.mem_append.mp hp with hp | hp
        · exact htl p hp
        · rw [List.mem_singleton.mp hp]; exact hCd
      · exact ⟨_, _, _, up5 (G, genObj gi na nb) (List.mem_append_right _ (g1.sub _ hgG)), rfl, rfl, rfl⟩
      · exact setGen_self hgen1
      · exact ((hoth.set .running).up r1.gens).set gs'
      · refine hkap ((C, oC3) :: (D, LCg.lst (refs (tups ++ [(d, quad k.1 ⟨(k.2.map κ.sg).toArray⟩ (κ.row c) (κ.col c) u1 u2 u3 u4)]))) :: (tups ++ [(d, quad k.1 ⟨(k.2.map κ.sg).toArray⟩ (κ.row c) (κ.col c) u1 u2 u3 u4)])) _ ?_ ?_
        · exact (exs_lst (s := Shared.setGen { s₁.setGen gi gs' with heap := h5', toks := tk4 } gi .running) hD5').symm
        · have hext5 : ∀ p ∈ (C, oC3) :: (D, LCg.lst (refs (tups ++ [(d, quad k.1 ⟨(k.2.map κ.sg).toArray⟩ (κ.row c) (κ.col c) u1 u2 u3 u4)]))) :: (tups ++ [(d, quad k.1 ⟨(k.2.map κ.sg).toArray⟩ (κ.row c) (κ.col c) u1 u2 u3 u4)]), p.1 = C ∨ p.1 = D ∨ p ∈ tups ∨ p.1 = d := by
            intro p hp
            simp only [List.mem_cons, List.mem_append, List.not_mem_nil, or_false] at hp
            rcases hp with rfl | rfl | hp | rfl
            · exact .inl rfl
            · exact .inr (.inl rfl)
            · exact .inr (.inr (.inl hp))
            · exact .inr (.inr (.inr rfl))
          refine ⟨g1.em, g1.sti, ?_, ?_, g1.sub, F5, _, ⟨⟨ntb, pbs, npb, nct, oit, rfl, hs⟩, few, hm⟩, ?_⟩
          · intro p hp b hb
            have hbD : @LT.lt Nat _ b D := hown b (by simp only [List.mem_cons, List.not_mem_nil, or_false] at hb ⊢; rcases hb with h | h | h | h | h <;> first | ((repeat (first | exact h | exact Or.inl h | exact Or.inr h | exact Or.inl (Or.inl h) | exact Or.inl (Or.inr h) | exact Or.inl (Or.inr (Or.inl h)) | exact Or.inl (Or.inr (Or.inr h)) | apply Or.inr)); done) | simp [h])
            rcases hext5 p hp with h | h | h | h
            · rw [h]; exact (Nat.ne_of_lt (Nat.lt_trans hbD hDC)).symm
            · rw [h]; exact (Nat.ne_of_lt hbD).symm
            · exact (Nat.ne_of_lt (Nat.lt_trans (Nat.lt_trans hbD hDC) (htl p h))).symm
            · rw [h]; exact (Nat.ne_of_lt (Nat.lt_trans hbD hDd)).symm
          · intro p hp q hq
            rcases hext5 q hq with h | h | h | h
            · rw [h]; exact g1.off p hp (C, oC) (.head _)
            · rw [h]; exact g1.off p hp (D, LCg.lst (refs tups)) (.tail _ (.head _))
            · exact g1.off p hp q (.tail _ (.tail _ h))
            · rw [h]; exact Nat.ne_of_lt (hfr p (hrest3 p hp))
          · intro p hp
            have key : p = (D, LCg.lst (refs (tups ++ [(d, quad k.1 ⟨(k.2.map κ.sg).toArray⟩ (κ.row c) (κ.col c) u1 u2 u3 u4)]))) ∨ (p ∈ (d, quad k.1 ⟨(k.2.map κ.sg).toArray⟩ (κ.row c) (κ.col c) u1 u2 u3 u4) :: (κ.upd h5 t5 nd).led ((225, tabObj ps) :: (((C, oC3) :: (D, LCg.lst (refs tups)) :: tups) ++ rest)) [] ntb pbs npb [] nct oit ∧ p.1 ≠ D) := by
              simp only [LxK.led, List.mem_cons, List.mem_append, List.cons_append, List.not_mem_nil, or_false] at hp ⊢
              rcases hp with rfl | rfl | rfl | rfl | rfl | rfl | rfl | rfl | rfl | (hp | rfl) | hp
              · exact .inr ⟨.inr (.inl rfl), hown3 _ (by repeat (first | exact .head _ | apply List.Mem.tail))⟩
              · exact .inr ⟨.inr (.inr (.inl rfl)), hown3 _ (by repeat (first | exact .head _ | apply List.Mem.tail))⟩
              · exact .inr ⟨.inr (.inr (.inr (.inl rfl))), hown3 _ (by repeat (first | exact .head _ | apply List.Mem.tail))⟩
              · exact .inr ⟨.inr (.inr (.inr (.inr (.inl rfl)))), hown3 _ (by repeat (first | exact .head _ | apply List.Mem.tail))⟩
              · exact .inr ⟨.inr (.inr (.inr (.inr (.inr (.inl rfl))))), hown3 _ (by repeat (first | exact .head _ | apply List.Mem.tail))⟩
              · exact .inr ⟨.inr (.inr (.inr (.inr (.inr (.inr (.inl rfl)))))), hown3 _ (by repeat (first | exact .head _ | apply List.Mem.tail))⟩
              · exact .inr ⟨.inr (.inr (.inr (.inr (.inr (.inr (.inr (.inl rfl))))))), hown3 _ (by repeat (first | exact .head _ | apply List.Mem.tail))⟩
              · exact .inr ⟨.inr (.inr (.inr (.inr (.inr (.inr (.inr (.inr (.inl rfl)))))))), hDCn.symm⟩
              · exact .inl rfl
              · exact .inr ⟨.inr (.inr (.inr (.inr (.inr (.inr (.inr (.inr (.inr (.inr (.inl hp)))))))))), (Nat.ne_of_lt (Nat.lt_trans hDC (htl p hp))).symm⟩
              · exact .inr ⟨.inl rfl, hdD⟩
              · exact .inr ⟨.inr (.inr (.inr (.inr (.inr (.inr (.inr (.inr (.inr (.inr (.inr hp)))))))))), g1.off p hp (D, LCg.lst (refs tups)) (.tail _ (.head _))⟩
            rcases key with rfl | ⟨hin, hne⟩
            · exact ⟨hD5', (hown3 Lg (by repeat (first | exact .head _ | apply List.Mem.tail))).symm, hgD⟩
            · exact ⟨hs5.extBut _ _ hne (N4 p hin).1, (N4 p hin).2⟩
  · rintro s₁ ⟨h0, h5, t5, nd, ps, rest, ext, g1, r1⟩ h' hkeep
    have hext := ext_is r1
    subst hext
    obtain ⟨l1, hat1, N1⟩ := g1.nw
    have htl0 : tl = [] := List.eq_nil_of_length_eq_zero h0
    subst htl0
    rw [List.append_nil] at hall
    subst hall
    have hgen1 : s₁.gens[gi]? = some .running := by
      have e1 := setGen_self (x := .running) hgs
      rw [r1.gens.same gi ((Array.getElem?_eq_some_iff.mp e1).1)]
      exact e1
    have N2 := N1.grown hkeep
    have hC1 := (N2 (C, oC) (At.tail hat1 _ (.tail _ (.head _)))).1
    have hDCn : D ≠ C := Nat.ne_of_lt hDC
    have e : ({ s₁.setGen gi .finished with heap := h' } : Shared) = { s₂ with heap := h', gens := (s₁.setGen gi .finished).gens, toks := s₁.toks } := by
      show Shared.mk _ _ _ _ _ = Shared.mk _ _ _ _ _
      rw [← r1.drawn.trans hdr, ← r1.os.trans hos]
      rfl
    rw [e]
    refine hend tups ps rest h' _ _ mC _ hq g1.sub (hns.ns hC1) (g1.fr.keeps hkeep) (fun p hp => N2 p (At.tail hat1 p ?_)) (fun p hp => ?_) g1.em.tab (((hoth.set .running).up r1.gens).set .finished) (setGen_self hgen1)
    · simp only [List.mem_cons, List.mem_append, List.cons_append] at hp ⊢
      rcases hp with rfl | hp | rfl | hp
      · exact .inr (.inr (.inl rfl))
      · exact .inr (.inr (.inr (.inl hp)))
      · exact .inl rfl
      · exact .inr (.inr (.inr (.inr hp)))
    · simp only [List.mem_cons, List.mem_append] at hp
      rcases hp with rfl | hp | rfl | hp
      · exact hDCn
      · exact (Nat.ne_of_lt (htl p hp)).symm
      · exact Nat.ne_of_lt (Nat.lt_trans (hown 225 (by repeat (first | exact .head _ | apply List.Mem.tail))) hDC)
      · exact g1.off p hp (C, oC) (.head _)
end
end
section
open PySem PySem.W PyProof.Rows PySem.Calls
set_option maxRecDepth 100000
set_option maxHeartbeats 400000


theorem iterL {prog : Program} {w : World} {A : Around} {E : Value → Shared → Prop} {s : Shared} {h₀ : Heap} {L l : Addr} {m : Str → Option Value} {news : List (Addr × Obj)} {its : Array Value} {n : Nat} {Q : Value → Shared → Prop} (F : Fr h₀ L s.heap m) (N : News h₀ L s.heap news) (hm : (l, PySem.W.listOf its n) ∈ news)
    (h : ∀ (I : Addr) h', Fr h₀ L h' m → News h₀ L h' ((I, ({ cls := .type "list_iterator", data := .fields #[.ref l, .int 0 0] } : Obj)) :: news) → (∀ p ∈ news, p.1 < I) → Q (.ref I) { s with heap := h' }) :
    wpAny (model prog w) A (call (.builtin "iter") [.ref l]) Q E s := by
  refine call_function_entry (by decide +kernel) (by decide +kernel) kdk_entry_iter (kdk_args_iter _) ?_
  unfold Builtin.«iter»
  refine wpAny_bind (m := someArgs "iter" 1 2 _) (wpAny_of_eq (a := [Value.ref l]) (by first | rfl | kernel_rfl!) ?_)
  show wpAny _ _ (pyIter (.ref l) >>= _) _ _ _
  have hL : s.heap.IsList l its := ⟨_, (N _ hm).1, rfl, n, rfl⟩
  refine wpAny_bind (wpAny_pyIter_list hL ?_)
  exact wpAny_pure ⟨_, rfl, h _ _ (F.push _) (News.push F N _ rfl) fun q hq => Heap.lt_size (N q hq).1⟩
/-- the law itself -/
noncomputable def lawDefn : Arguments × List Stmt × Scope := match PySem.Challenge.pw_rk0008_01.main.body.getLast? with | some (.FunctionDef _ a b _ _ _ s _ _ _) => (a, b, s) | _ => (⟨[], [], none, [], [], none, []⟩, [], default)
noncomputable abbrev lawEnv (L fa : Addr) : Env := envX (Str.ofString "law") lawDefn.2.2 L fa (.ref 499) (cellsFrom (L + 1) lawDefn.2.2.names [])

theorem iter_ok {w : World} {mean : ExcName → Option Value} {mg mb : Str → Option Value} {dp un : Nat} {gd : Option (List Code)} {L fa : Addr} {outer : List Env} {A₀ : Around} {base h₀ : Heap} {m : Str → Option Value} {s : Shared} {Q E : Value → Shared → Prop} {rest : List (Addr × Obj)}
    (B : Below A₀ base outer h₀) (F : Fr h₀ L s.heap m) (X : (hd.heap_39 w.params).In h₀) (N : News h₀ L s.heap rest) (T : Top view loose mean mg mb h₀) (hdp : dp + 30 < recursionLimit) (hun : un + 300 < cLine)
    {x chl f1 : Addr} {os ot : Obj} {its : Array Value} {nch : Nat} (hch : m (Str.ofString "chars") = some (.ref chl)) (hl : (chl, PySem.W.listOf its nch) ∈ rest) (hx : (L + 1, os) ∈ rest) (hxd : os.data = .cell (some (.ref x))) (ht : (L + 2, ot) ∈ rest) (htd : ot.data = .cell (some (.ref f1)))
    (h : ∀ g Lg it h' tk na nb, Below (ktrTop dp un gd (Str.ofString "law") lawDefn.2.2 L fa (.ref 499) (cellsFrom (L + 1) lawDefn.2.2.names []) outer) base (lawEnv L fa :: outer) g → (hd.heap_39 w.params).In g → Top view loose mean mg mb g →
      (∀ (hh : Heap) m' l, Fr g Lg hh m' → News g Lg hh l → Fr h₀ L hh m ∧ News h₀ L hh l) → Fr g Lg h' (fun y => List.lookup y [(Str.ofString "start_state", .ref f1), (Str.ofString "characters", .ref it), (Str.ofString "self", .ref x)]) →
      News g Lg h' ((Lg + 1, genObj s.gens.size na nb) :: (it, ({ cls := .type "list_iterator", data := .fields #[.ref chl, .int 0 0] } : Obj)) :: rest) → (∀ q ∈ rest, q.1 < it) → @LT.lt Nat _ it Lg →
      Q (.ref (Lg + 1)) { s with heap := h', gens := s.gens.push (.fresh (cF Lg)), toks := tk }) :
    wpAny (model PySem.Challenge.pw_rk0008_01 w) (ktrTop dp un gd (Str.ofString "law") lawDefn.2.2 L fa (.ref 499) (cellsFrom (L + 1) lawDefn.2.2.names []) outer) (eval gotComp.2.1 (lawEnv L fa)) Q E s := by
  have eU : gotComp = gotComp := rfl
  conv at eU => rhs; whnf
  rw [eU]
  have eL : lawDefn = lawDefn := rfl
  conv at eL => rhs; whnf
  unfold lawEnv at h ⊢
  rw [eL] at h ⊢
  dsimp only at h ⊢
  have hchd := codeHd_of_K (c := 229) (P := 225) X (by kernel_rfl)
  walk1
  (repeat' (first | ((k_here; (with_reducible show wpAny _ _ (call (Value.ref _) _) _ _ _); k_dflt (refine' tok_call ?B ?F ?X ?N ?T ?d ?_; (case N => k_asm); (case F => k_asm); (case B => k_asm); (case X => k_asm); (case T => k_asm); (case d => ktr_room); k_whole))) | ((k_here; (with_reducible show wpAny _ _ (call (Value.builtin "iter") [Value.ref _]) _ _ _); k_dflt (refine' iterL ?F ?N ?m ?_; (case F => k_asm); (case N => k_asm); (case m => k_mem); k_whole; intro D' h' F' N' l1; (try k_lt l1)))) | ((k_here; (with_reducible show wpAny _ _ (eval (Expr.Name _ _) _) _ _ _); k_dflt (refine' nameX_L ?F ?v ?_ ?a ?b; (case a => rfl); (case b => rfl); (case F => k_asm); (case v => assumption); k_whole))) | (k_unfold; (try dsimp only)) | (k_end; kc_close) | walk1 | (dsimp only; walk1) | (leave1; walk_say "STEP leave1"; (try dsimp only)) | fail "no step"))
  rename ∀ q ∈ _ :: rest, _ => l9
  refine h _ _ _ _ _ _ _ (by assumption) (by assumption) (by assumption) (by assumption) (by assumption) (by assumption) (by assumption) ?_
  exact l9 _ (.head _)

/-- the lexer's ledger with no iterator yet -/
noncomputable abbrev barLed (κ : LxK) (ntb npb nct : Nat) (ps : Array Value) (rest : List (Addr × Obj)) : List (Addr × Obj) :=
  (κ.x, instObj 390 κ.dx) :: (κ.dx, dictOf [⟨κ.h1, .str (Str.ofString "token_buffer") κ.t1, .ref κ.tb⟩, ⟨κ.h2, .str (Str.ofString "pushed_back") κ.t2, .ref κ.pb⟩, ⟨κ.h3, .str (Str.ofString "current_text") κ.t3, .ref κ.ct⟩, ⟨κ.h4, .str (Str.ofString "coptions") κ.t4, κ.co⟩] 4) :: (κ.tb, PySem.W.listOf ([] : List Value).toArray ntb) :: (κ.pb, PySem.W.listOf ([] : List Value).toArray npb) :: (κ.ct, PySem.W.listOf ([] : List Value).toArray nct) :: (225, tabObj ps) :: rest
/-- what is known of the ledger's tail ahead of tokenize -/
structure Ready (κ : LxK) (ps : Array Value) (rest : List (Addr × Obj)) : Prop where
  o1 : @LT.lt Nat _ κ.dx κ.x
  o2 : @LT.lt Nat _ κ.x κ.tb
  o3 : @LT.lt Nat _ κ.tb κ.pb
  o4 : @LT.lt Nat _ κ.pb κ.ct
  off : OwnOff rest [225, κ.dx, κ.tb, κ.pb, κ.ct]
  cl : (κ.cl, PySem.W.listOf (κ.cs.map Value.ref).toArray κ.ncl) ∈ rest
  few : κ.cs.length ≤ 900
  chars : ∀ c ∈ κ.cs, CharIn rest c (κ.sg c) (κ.lo c)
  locs : ∀ c ∈ κ.cs, LocIn rest (κ.lo c) (κ.row c) (κ.col c)
  tab : TabOne gxPos ps
  low : @LT.lt Nat _ 500 κ.dx
theorem no225 {b : Nat} (h : 500 < b) (e : 225 = b) : False := by omega
theorem Ready.em {κ : LxK} {ps : Array Value} {rest : List (Addr × Obj)} (r : Ready κ ps rest) {it : Addr} (hit : @LT.lt Nat _ κ.ct it) {G : Addr} {go : Obj} (hG : @LT.lt Nat _ it G) (hr : ∀ q ∈ rest, @LT.lt Nat _ q.1 it) : ({ κ with it := it } : LxK).Em ps ((G, go) :: rest) := by
  have o1 := r.o1
  have o2 := r.o2
  have o3 := r.o3
  have o4 := r.o4
  have low := r.low
  have w2 : @LT.lt Nat _ 500 κ.tb := Nat.lt_trans low (Nat.lt_trans o1 o2)
  have w3 : @LT.lt Nat _ 500 κ.pb := Nat.lt_trans w2 o3
  have w4 : @LT.lt Nat _ 500 κ.ct := Nat.lt_trans w3 o4
  have w5 : @LT.lt Nat _ 500 it := Nat.lt_trans w4 hit
  have sb : ∀ p ∈ rest, p ∈ (225, tabObj ps) :: (G, go) :: rest := fun p hp => .tail _ (.tail _ hp)
  refine ⟨⟨o1, o2, o3, o4, hit, ?_, sb _ r.cl, r.few, fun c hc => (r.chars c hc).sub sb, fun c hc => (r.locs c hc).sub sb⟩, r.tab, low, ?_⟩
  · intro p hp b hb e
    have e' : @Eq Nat p.1 b := e
    simp only [List.mem_cons, List.not_mem_nil, or_false] at hb
    rcases List.mem_cons.mp hp with rfl | hp
    · simp only at e'
      rcases hb with rfl | rfl | rfl | rfl
      · exact no225 w2 e'
      · exact no225 w3 e'
      · exact no225 w4 e'
      · exact no225 w5 e'
    · rcases List.mem_cons.mp hp with rfl | hp
      · simp only at e'
        rcases hb with rfl | rfl | rfl | rfl
        · exact Nat.ne_of_gt (Nat.lt_trans o3 (Nat.lt_trans o4 (Nat.lt_trans hit hG))) e'
        · exact Nat.ne_of_gt (Nat.lt_trans o4 (Nat.lt_trans hit hG)) e'
        · exact Nat.ne_of_gt (Nat.lt_trans hit hG) e'
        · exact Nat.ne_of_gt hG e'
      · have l := hr p hp
        rcases hb with rfl | rfl | rfl | rfl
        · exact r.off p hp κ.tb (by repeat (first | exact .head _ | apply List.Mem.tail)) e
        · exact r.off p hp κ.pb (by repeat (first | exact .head _ | apply List.Mem.tail)) e
        · exact r.off p hp κ.ct (by repeat (first | exact .head _ | apply List.Mem.tail)) e
        · exact Nat.ne_of_lt l e'
  · intro p hp b hb e
    have e' : @Eq Nat p.1 b := e
    rw [List.mem_singleton.mp hb] at e'
    rcases List.mem_cons.mp hp with rfl | hp
    · simp only at e'; exact no225 (Nat.lt_trans w5 hG) e'.symm
    · exact r.off p hp 225 (by repeat (first | exact .head _ | apply List.Mem.tail)) e'
theorem Quads.it {κ : LxK} {it : Addr} {ts : List (Addr × Obj)} {ks : List (Str × List Addr)} (h : Quads { κ with it := it } ts ks) : Quads κ ts ks := by
  induction h with
  | nil => exact .nil
  | snoc _ hk ih => exact .snoc ih hk
theorem got_ok {w : World} {mean : ExcName → Option Value} {mg mb : Str → Option Value} {dp un : Nat} {gd : Option (List Code)} {L fa : Addr} {outer : List Env} {A₀ : Around} {base h₀ : Heap} {m : Str → Option Value} {s : Shared} {Q : Flow → Shared → Prop} {E : Value → Shared → Prop} {κ : LxK} {δ : Defs} {ps : Array Value} {rest : List (Addr × Obj)} {ntb npb nct : Nat}
    (B : Below A₀ base outer h₀) (F : Fr h₀ L s.heap m) (X : (hd.heap_39 w.params).In h₀) (rd : Ready κ ps rest) (N : News h₀ L s.heap (barLed κ ntb npb nct ps rest)) (T : Top view loose mean mg mb h₀) (hdp : dp + 30 < recursionLimit) (hun : un + 300 < cLine)
    (sti : StartIn rest κ.x δ.f0 δ.f1 δ.xc δ.sc δ.tc δ.ox δ.os δ.ot) (hxc : δ.xc = L + 1) (htc : δ.tc = L + 2)
    (hch : m (Str.ofString "chars") = some (.ref κ.cl)) {all : List (Str × List Addr)} (ht : Toks κ.sg κ.cs all) (hall : all.length ≤ 900) (hbare : AllBare s.gens)
    (h : ∀ h' gn' tk' D tups ps' rest', Quads κ tups all → (∀ p ∈ rest, p ∈ rest') → Fr h₀ L h' (fun z => if z = Str.ofString "got" then some (.ref D) else m z) → News h₀ L h' ((D, LCg.lst (refs tups)) :: (tups ++ (225, tabObj ps') :: rest')) → TabOne gxPos ps' → AllBare gn' → Q .next { s with heap := h', gens := gn', toks := tk' }) :
    wpAny (model PySem.Challenge.pw_rk0008_01 w) (ktrTop dp un gd (Str.ofString "law") lawDefn.2.2 L fa (.ref 499) (cellsFrom (L + 1) lawDefn.2.2.names []) outer) (exec gotStmt (lawEnv L fa)) Q E s := by
  have hx : gotComp.2.2.names.lookup (Str.ofString "t") = some .local := by rfl
  have hkind : gotComp.2.2.kind = .function := by rfl
  have hcell : ∀ y ∈ gotComp.2.2.names, y.2 ≠ .cell := by decide
  have hnames : ∀ z ∈ gotComp.2.2.names, z.2 = .local → gotComp.2.2.names.lookup z.1 = some .local := by decide
  change wpAny (model PySem.Challenge.pw_rk0008_01 w) (ktrTop dp un gd (Str.ofString "law") lawDefn.2.2 L fa (.ref 499) (cellsFrom (L + 1) lawDefn.2.2.names []) outer) (exec (.Assign [.Name (Str.ofString "got") _] (.ListComp gotComp.1 [⟨.Name (Str.ofString "t") _, gotComp.2.1, [], 0⟩] gotComp.2.2 _) _) (lawEnv L fa)) Q E s
  rw [exec_Assign_Name_used _ _ _ _ (by rfl)]
  refine wpAny_bind (wpAny_standAt (wpAny_bind ?_))
  change wpAny (model PySem.Challenge.pw_rk0008_01 w) (ktrTop dp un gd (Str.ofString "law") lawDefn.2.2 L fa (.ref 499) (cellsFrom (L + 1) lawDefn.2.2.names []) outer) (comprehension _ gotComp.2.2 (lawEnv L fa) _ (newList []) false (eval gotComp.2.1 (lawEnv L fa)) (some (assign (.Name (Str.ofString "got") _) (lawEnv L fa))) >>= fun _ => _) _ _ _
  refine wpAny_bind (wpAny_mono (wpAny_comprehension_free (use := some (assign (.Name (Str.ofString "got") _) (lawEnv L fa))) (Q := fun _ s' => Q .next s') (cl := []) rfl (fun _ => rfl) rfl hkind hnames ?_) (fun _ s' hq => wpAny_pure (wpAny_pure hq)) fun _ _ e => e)
  have hlx : (L + 1, δ.ox) ∈ barLed κ ntb npb nct ps rest := .tail _ (.tail _ (.tail _ (.tail _ (.tail _ (.tail _ (hxc ▸ sti.hx))))))
  have hls : (L + 2, δ.ot) ∈ barLed κ ntb npb nct ps rest := .tail _ (.tail _ (.tail _ (.tail _ (.tail _ (.tail _ (htc ▸ sti.ht))))))
  refine iter_ok B F X N T hdp hun hch (.tail _ (.tail _ (.tail _ (.tail _ (.tail _ (.tail _ rd.cl)))))) hlx sti.dx hls sti.dt fun g Lg it h' tk na nb B1 X1 T1 back F1 N1 hri hil => ?_
  have hG1 : h'.IsGen (Lg + 1) s.gens.size := ⟨_, _, _, (N1 _ (.head _)).1, rfl, rfl, rfl⟩
  refine wpAny_pyIter_gen hG1 ?_
  refine wpAny_newObj_type (wpAny_newFunctionEnv hcell (by intro y hy; simp at hy) (fun h₁ hns₁ hsb₁ => ?_) hkind)
  dsimp only at hns₁ hsb₁ ⊢
  generalize hH2 : h'.push { cls := .type "list", dict := none, data := .seq ([] : List Value).toArray } = H2 at hns₁ hsb₁ ⊢
  have hC : H2.objs.size = h'.objs.size + 1 := by rw [← hH2, Heap.size_push]
  have hDC : @LT.lt Nat _ h'.objs.size H2.objs.size := by rw [hC]; exact Nat.lt_succ_self _
  have below : ∀ b, b < h'.objs.size → b ≠ H2.objs.size := fun b hb => by rw [hC]; exact Nat.ne_of_lt (Nat.lt_succ_of_lt hb)
  have old : ∀ b o, h'.get? b = some o → h₁.get? b = some o := fun b o e => hsb₁.extBut b o (below b (Heap.lt_size e)) (Heap.get?_push_of_some _ (hH2 ▸ Heap.get?_push_of_some _ e))
  have hD₁ : h₁.get? h'.objs.size = some (LCg.lst (refs [])) := hsb₁.extBut _ _ (Nat.ne_of_lt hDC) (Heap.get?_push_of_some _ (hH2 ▸ Heap.get?_push_size _ rfl))
  obtain ⟨oC, hC₁, hns₂⟩ := LCg.ns_obj hns₁
  have hLg : @LT.lt Nat _ Lg h'.objs.size := F1.ns.lt
  have hgD : g.get? h'.objs.size = none := Heap.get?_none_of_le (Nat.le_trans F1.above (Nat.le_of_lt hLg))
  have hgC : g.get? H2.objs.size = none := Heap.get?_none_of_le (Nat.le_trans F1.above (Nat.le_of_lt (Nat.lt_trans hLg hDC)))
  have hGs : @LT.lt Nat _ (Lg + 1) h'.objs.size := Heap.lt_size (N1 _ (.head _)).1
  have hct : @LT.lt Nat _ κ.ct it := hri (κ.ct, _) (.tail _ (.tail _ (.tail _ (.tail _ (.head _)))))
  have hrest : ∀ q ∈ rest, @LT.lt Nat _ q.1 it := fun q hq => hri q (.tail _ (.tail _ (.tail _ (.tail _ (.tail _ (.tail _ hq))))))
  have h225 : @LT.lt Nat _ 225 it := hri (225, tabObj ps) (.tail _ (.tail _ (.tail _ (.tail _ (.tail _ (.head _))))))
  have o1 := rd.o1
  have o2 := rd.o2
  have o3 := rd.o3
  have o4 := rd.o4
  have hown : ∀ b ∈ [κ.x, κ.dx, κ.tb, κ.pb, κ.ct, it, 225, Lg], @LT.lt Nat _ b h'.objs.size := by
    intro b hb
    have z1 : @LT.lt Nat _ Lg h'.objs.size := Nat.lt_trans (Nat.lt_succ_self _) hGs
    have z2 : @LT.lt Nat _ it h'.objs.size := Nat.lt_trans hil z1
    have z3 : @LT.lt Nat _ κ.ct h'.objs.size := Nat.lt_trans hct z2
    simp only [List.mem_cons, List.not_mem_nil, or_false] at hb
    rcases hb with rfl | rfl | rfl | rfl | rfl | rfl | rfl | rfl
    · exact Nat.lt_trans (Nat.lt_trans o2 (Nat.lt_trans o3 o4)) z3
    · exact Nat.lt_trans (Nat.lt_trans o1 (Nat.lt_trans o2 (Nat.lt_trans o3 o4))) z3
    · exact Nat.lt_trans (Nat.lt_trans o3 o4) z3
    · exact Nat.lt_trans o4 z3
    · exact z3
    · exact z2
    · exact Nat.lt_trans h225 z2
    · exact z1
  have sti' : StartIn ((Lg + 1, genObj s.gens.size na nb) :: rest) κ.x δ.f0 δ.f1 δ.xc δ.sc δ.tc δ.ox δ.os δ.ot := sti.sub fun _ hp => .tail _ hp
  have hLC : L ≠ H2.objs.size := by
    obtain ⟨F9, _⟩ := back h' _ _ F1 N1
    exact below L F9.ns.lt
  have hcm : ∀ p ∈ (Lg + 1, genObj s.gens.size na nb) :: rest, p.1 < h'.objs.size := fun p hp => by
    rcases List.mem_cons.mp hp with rfl | hp
    · exact hGs
    · exact Nat.lt_trans (hrest p hp) (Nat.lt_trans hil hLg)
  have loop : ∀ (s₃ : Shared) (px pos py : Pos), s₃ = { s with heap := h₁, gens := s.gens.push (.fresh (cF Lg)), toks := tk } →
      codeAny (model PySem.Challenge.pw_rk0008_01 w) (ktrTop dp un gd (Str.ofString "law") lawDefn.2.2 L fa (.ref 499) (cellsFrom (L + 1) lawDefn.2.2.names []) outer) (.compLoop (.ListComp gotComp.1 [⟨.Name (Str.ofString "t") px, gotComp.2.1, [], 0⟩] gotComp.2.2 pos) 0 (.ref (Lg + 1)) (.ref h'.objs.size) (compEnvC gotComp.2.2 [] H2.objs.size (lawEnv L fa)))
        (compPost (model PySem.Challenge.pw_rk0008_01 w) (ktrTop dp un gd (Str.ofString "law") lawDefn.2.2 L fa (.ref 499) (cellsFrom (L + 1) lawDefn.2.2.names []) outer) E (some (assign (.Name (Str.ofString "got") py) (lawEnv L fa))) (fun _ s' => Q .next s') (.ref h'.objs.size) H2.objs.size) s₃ := by
    rintro s₃ px pos py rfl
    refine codeAny_compLoop_list (GotI w { κ with it := it } { δ with keep := (Lg + 1, genObj s.gens.size na nb) :: rest } g Lg all dp un gd (Str.ofString "law") lawDefn.2.2.names lawDefn.2.2.isGenerator lawDefn.2.2.isCoroutine lawDefn.2.2.more L fa (.ref 499) (cellsFrom (L + 1) lawDefn.2.2.names []) outer H2.objs.size h'.objs.size (Lg + 1) s.gens.size s)
      (fun n s₄ hI => got_turn X1 T1 (by omega) (by omega) hDC hown (.head _) hall hgC hgD hx hkind ?hend _ n s₄ hI) (all.length + 1) ?_
    case hend =>
      intro tups ps' rest' h'' gn' tk' mC m' hq hsub hnC Fg Ng hne htab hoth hfin
      obtain ⟨F9, N9⟩ := back _ _ _ Fg Ng
      show wpAny (model PySem.Challenge.pw_rk0008_01 w) (ktrTop dp un gd (Str.ofString "law") lawDefn.2.2 L fa (.ref 499) (cellsFrom (L + 1) lawDefn.2.2.names []) outer) (assign (.Name (Str.ofString "got") py) (lawEnv L fa) (.ref h'.objs.size)) _ _ _
      refine wpAny_assign_Name (wpAny_storeName_local (by rfl) F9.ns (fun h₂ hn₂ hs₂ => ?_) (by rfl))
      have hL₀ : h₀.get? L = none := Heap.get?_none_of_le F9.above
      have hC₀ : h₀.get? H2.objs.size = none := by
        cases q : h₀.get? H2.objs.size with
        | none => rfl
        | some o =>
          have e1 := (back h₁ _ [] (F1.keeps old) (fun _ h => nomatch h)).1.above
          exact absurd (Heap.lt_size q) (Nat.not_lt.mpr (Nat.le_trans e1 (Nat.le_of_lt (by
            obtain ⟨F8, _⟩ := back h' _ _ F1 N1
            exact Nat.lt_trans F8.ns.lt hDC))))
      have F₂ : Fr h₀ L h₂ (fun z => if z = Str.ofString "got" then some (.ref h'.objs.size) else m z) := ⟨hn₂, fun b o e => hs₂.extBut b o (fun q => by rw [q, hL₀] at e; cases e) (F9.keep b o e), F9.above⟩
      refine ⟨mC, hnC.sameBut hs₂ (Ne.symm hLC), fun h₃ hs₃ => ?_⟩
      refine h h₃ gn' _ h'.objs.size tups ps' rest' hq.it (fun p hp => hsub p (.tail _ hp)) (F₂.change hs₃ (Ne.symm hLC) hC₀) (fun p hp => ?_) htab ?_
      · have z : h₂.get? p.1 = some p.2 := hs₂.extBut _ _ (N9 p hp).2.1 (N9 p hp).1
        exact ⟨hs₃.extBut _ _ (hne p hp) z, (N9 p hp).2⟩
      · intro y hy
        obtain ⟨i, hi, rfl⟩ := Array.mem_iff_getElem.mp hy
        by_cases e : i = s.gens.size
        · have e2 : gn'[i]? = some .finished := by rw [e]; exact hfin
          rw [Array.getElem?_eq_getElem hi] at e2
          rw [Option.some.inj e2]; rfl
        · exact hoth i _ e (Array.getElem?_eq_getElem hi)
    refine ⟨[], all, [], oC, _, .fresh (cF Lg), rfl, rfl, .nil, hC₁, hns₂, hD₁, (fun _ h => nomatch h), (fun _ h => nomatch h), ?_, T1.nolimit.keeps (F1.keeps old).keep, ?_, ?_, rfl, rfl, rfl, ?_⟩
    · obtain ⟨o, nm, qn, e1, e2⟩ := hG1
      exact ⟨o, nm, qn, old _ _ e1, e2⟩
    · show (s.gens.push _)[s.gens.size]? = _
      rw [Array.getElem?_push_size]
    · intro i y hi e
      have e' : (s.gens.push (.fresh (cF Lg)))[i]? = some y := e
      rw [Array.getElem?_push, if_neg hi] at e'
      exact hbare y (Array.mem_of_getElem? e')
    · refine fresh_seg (κ₀ := { κ with it := it }) (δ := { δ with keep := (Lg + 1, genObj s.gens.size na nb) :: rest }) (exts := exs H2.objs.size h'.objs.size) (s := Shared.setGen { s with heap := h₁, gens := s.gens.push (.fresh (cF Lg)), toks := tk } s.gens.size .running) (ext := [(H2.objs.size, oC), (h'.objs.size, LCg.lst (refs []))]) B1 X1 T1 (by omega) (by omega) (rd.em hct (Nat.lt_succ_of_lt hil) hrest) sti' ?_ ?_ (fun _ hp => hp) ?_ ?_ (F1.keeps old) (ntb := ntb) (npb := npb) (nct := nct) (oit := { cls := .type "list_iterator", data := .fields #[.ref κ.cl, .int 0 0] }) ?_ ⟨rfl, rfl⟩ ht
      · intro p hp b hb
        have hbD : @LT.lt Nat _ b h'.objs.size := hown b (by simp only [List.mem_cons, List.not_mem_nil, or_false] at hb ⊢; rcases hb with h | h | h | h | h <;> first | ((repeat (first | exact h | exact Or.inl h | exact Or.inr h | exact Or.inl (Or.inl h) | exact Or.inl (Or.inr h) | exact Or.inl (Or.inr (Or.inl h)) | exact Or.inl (Or.inr (Or.inr h)) | apply Or.inr)); done) | simp [h])
        rcases List.mem_cons.mp hp with rfl | hp
        · exact (Nat.ne_of_lt (Nat.lt_trans hbD hDC)).symm
        · rw [List.mem_singleton.mp hp]; exact (Nat.ne_of_lt hbD).symm
      · intro p hp q hq
        rcases List.mem_cons.mp hq with rfl | hq
        · exact Nat.ne_of_lt (Nat.lt_trans (hcm p hp) hDC)
        · rw [List.mem_singleton.mp hq]; exact Nat.ne_of_lt (hcm p hp)
      · exact (exs_lst (tups := []) hD₁).symm
      · intro p hp
        have hdxD : @LT.lt Nat _ κ.dx h'.objs.size := hown κ.dx (by repeat (first | exact .head _ | apply List.Mem.tail))
        rcases List.mem_append.mp hp with hp | hp
        · rcases List.mem_cons.mp hp with rfl | hp
          · exact (Nat.ne_of_lt (Nat.lt_trans hdxD hDC)).symm
          · rw [List.mem_singleton.mp hp]; exact (Nat.ne_of_lt hdxD).symm
        · rcases List.mem_cons.mp hp with rfl | hp
          · have : @LT.lt Nat _ κ.dx it := hri (κ.dx, _) (.tail _ (.head _))
            exact (Nat.ne_of_lt (Nat.lt_succ_of_lt (Nat.lt_trans this hil))).symm
          · exact rd.off p hp κ.dx (by repeat (first | exact .head _ | apply List.Mem.tail))
      · intro p hp
        have key : p = (H2.objs.size, oC) ∨ p = (h'.objs.size, LCg.lst (refs [])) ∨ p ∈ (Lg + 1, genObj s.gens.size na nb) :: (it, ({ cls := .type "list_iterator", data := .fields #[.ref κ.cl, .int 0 0] } : Obj)) :: barLed κ ntb npb nct ps rest := by
          simp only [preLed, barLed, List.mem_cons, List.mem_append, List.not_mem_nil, or_false] at hp ⊢
          rcases hp with hp | hp | hp | hp | hp | hp | hp | (hp | hp) | hp | hp <;> first | ((repeat (first | exact hp | exact Or.inl hp | exact Or.inr hp | exact Or.inl (Or.inl hp) | exact Or.inl (Or.inr hp) | exact Or.inl (Or.inr (Or.inl hp)) | exact Or.inl (Or.inr (Or.inr hp)) | apply Or.inr)); done) | simp [hp]
        rcases key with rfl | rfl | hp
        · exact ⟨hC₁, (Nat.ne_of_lt (Nat.lt_trans hLg hDC)).symm, hgC⟩
        · exact ⟨hD₁, (Nat.ne_of_lt hLg).symm, hgD⟩
        · exact ⟨old _ _ (N1 p hp).1, (N1 p hp).2⟩
  refine codeAny_compStart_list (loop _ _ _ _ rfl) (wpAny_pyIter_gen (g := s.gens.size) (hG1.keeps old) (loop _ _ _ _ rfl))
end
section
open PySem PySem.W PyProof.Rows PySem.Calls
set_option maxRecDepth 100000
set_option maxHeartbeats 400000


/-- a piece as the law's list holds it -/
noncomputable abbrev pairO (kd txt : Str) (u1 u2 : Tok) : Obj := { cls := .type "tuple", data := .seq #[.str kd u1, .str txt u2] }
inductive Pairs : List (Addr × Obj) → List (Str × Str) → Prop
  | nil : Pairs [] []
  | snoc {ts : List (Addr × Obj)} {ks : List (Str × Str)} {d : Addr} {kd txt : Str} {u1 u2 : Tok} : Pairs ts ks → Pairs (ts ++ [(d, pairO kd txt u1 u2)]) (ks ++ [(kd, txt)])
theorem Pairs.length {ts : List (Addr × Obj)} {ks : List (Str × Str)} (h : Pairs ts ks) : ts.length = ks.length := by
  induction h with
  | nil => rfl
  | snoc _ ih => simp [ih]
/-- the signs of a text, each a piece -/
noncomputable def ones (z : Str) : List (Str × Str) := z.cps.toList.map fun c => (Str.ofString "ONE", ⟨#[c]⟩)
noncomputable def gapT (g least : Int) : Str := Txt.slice (Txt.item (Str.ofString " ;*(,@$\né٣") ((g.fdiv 6).fmod 10) ++ Txt.item (Str.ofString " ;+(,@$\né٣xLu._e-") ((g.fdiv 60).fmod 17)) none (some (least + g.fmod (3 - least)))
noncomputable def defBack (i : Nat) : Arguments × List Stmt × Scope := match PySem.Challenge.pw_rk0008_01.main.body.reverse[i]? with | some (.FunctionDef _ a b _ _ _ s _ _ _) => (a, b, s) | _ => (⟨[], [], none, [], [], none, []⟩, [], default)
noncomputable def gapComp : PySem.Expr × Scope := match (defBack 1).2.1[1]? with | some (PySem.Stmt.Return (some (PySem.Expr.ListComp e _ s _)) _) => (e, s) | _ => (.Constant .none 0 default, default)
theorem elt_one {w : World} {mean : ExcName → Option Value} {mg mb : Str → Option Value} {A : Around} {cn : Str} {csn : List (Str × NameKind)} {csg csc : Bool} {csm : List (Str × Const)} {L a : Addr} {ccd : Value} {cl : List (Str × Addr)} {h₀ : Heap} {Lf : Addr} {m : Str → Option Value} {s : Shared} {Q E : Value → Shared → Prop} {rest : List (Addr × Obj)}
    (F : Fr h₀ Lf s.heap m) (X : (hd.heap_39 w.params).In h₀) (N : News h₀ Lf s.heap rest) (T : Top view loose mean mg mb h₀)
    {C : Addr} {oC : Obj} {m₂ : Str → Option Value} (hC : LCg.NsObj oC m₂) {z : Str} {tz : Tok} (hx : m₂ (Str.ofString "sign") = some (.str z tz)) (hm : (C, oC) ∈ rest)
    (h : ∀ h' tk d u1 u2, Fr h₀ Lf h' m → News h₀ Lf h' ((d, pairO (Str.ofString "ONE") z u1 u2) :: rest) → (∀ q ∈ rest, q.1 < d) → Q (.ref d) { s with heap := h', toks := tk }) :
    wpAny (model PySem.Challenge.pw_rk0008_01 w) A (eval gapComp.1 (compEnvC gapComp.2 [] C (envX cn ⟨ScopeKind.function, csn, csg, csc, csm⟩ L a ccd cl))) Q E s := by
  have eU : gapComp = gapComp := rfl
  conv at eU => rhs; whnf
  rw [eU]
  dsimp only
  walk1
  k_steps
  rename Fr _ _ _ _ => F8
  rename News _ _ _ _ => N8
  exact h _ _ _ _ _ F8 N8 (by assumption)
theorem ones_rest {w : World} {mean : ExcName → Option Value} {mg mb : Str → Option Value} {A : Around} {cn : Str} {csn : List (Str × NameKind)} {csg csc : Bool} {csm : List (Str × Const)} {L a : Addr} {ccd : Value} {cl : List (Str × Addr)} {h₀ : Heap} {Lf : Addr} {m : Str → Option Value} {s : Shared} {rest : List (Addr × Obj)} {z : Str} {Fin : List Value → List (Addr × Obj) → Prop}
    (X : (hd.heap_39 w.params).In h₀) (T : Top view loose mean mg mb h₀)
    (hFin : ∀ ts, Pairs ts (ones z) → (∀ p ∈ ts, ∀ q ∈ rest, @LT.lt Nat _ q.1 p.1) → Fin (refs ts) (ts ++ rest)) :
    ∀ (k i : Nat) (ts : List (Addr × Obj)), i + k = z.cps.size → Pairs ts ((ones z).take i) → (∀ p ∈ ts, ∀ q ∈ rest, @LT.lt Nat _ q.1 p.1) →
      LCg.CompRest PySem.Challenge.pw_rk0008_01 w A h₀ Lf m (envX cn ⟨ScopeKind.function, csn, csg, csc, csm⟩ L a ccd cl) gapComp.1 (Str.ofString "sign") gapComp.2 [] s (fun _ => True) (SignAt z) Fin k i (refs ts) (ts ++ rest) := by
  have hlen : (ones z).length = z.cps.size := by simp [ones]
  intro k
  induction k with
  | zero =>
    intro i ts hi hp hf
    refine LCg.CompRest.zero ?_
    have e : (ones z).take i = ones z := List.take_of_length_le (by omega)
    exact hFin ts (e ▸ hp) hf
  | succ k ih =>
    intro i ts hi hp hf
    refine LCg.CompRest.succ fun v I oI C oC D m₂ h tk E' hP hC hx F N off ne => ?_
    obtain ⟨c, u, hc, rfl⟩ := hP
    refine elt_one F X N T hC hx (.tail _ (.head _)) fun h' tk' d u1 u2 F' N' hfr => ?_
    have hsnoc : (ones z).take (i + 1) = (ones z).take i ++ [(Str.ofString "ONE", ⟨#[c]⟩)] := by
      have hg : (ones z)[i]? = some (Str.ofString "ONE", ⟨#[c]⟩) := by
        unfold ones
        rw [List.getElem?_map, Array.getElem?_toList, hc]
        rfl
      rw [List.take_add_one, hg]
      rfl
    have hd : ∀ q ∈ ts ++ rest, @LT.lt Nat _ q.1 d := fun q hq => hfr q (.tail _ (.tail _ (.tail _ hq)))
    have hnew : ∀ p ∈ ts ++ [(d, pairO (Str.ofString "ONE") ⟨#[c]⟩ u1 u2)], ∀ q ∈ rest, @LT.lt Nat _ q.1 p.1 := fun p hp q hq => by
      rcases List.mem_append.mp hp with hp | hp
      · exact hf p hp q hq
      · rw [List.mem_singleton.mp hp]; exact hd q (List.mem_append_right _ hq)
    have key := ih (i + 1) (ts ++ [(d, pairO (Str.ofString "ONE") ⟨#[c]⟩ u1 u2)]) (by omega) (hsnoc ▸ .snoc hp) hnew
    refine LCg.CompEnd.intro F' N' (ts ++ [(d, pairO (Str.ofString "ONE") ⟨#[c]⟩ u1 u2)] ++ rest) (fun p hp => ?_) (LCg.Off3.of fun p hp => ?_) trivial ?_
    · simp only [List.mem_cons, List.mem_append, List.not_mem_nil, or_false] at hp ⊢
      rcases hp with h | h | h | (h | h) | h <;> first | ((repeat (first | exact h | exact Or.inl h | exact Or.inr h | exact Or.inl (Or.inl h) | exact Or.inl (Or.inr h) | exact Or.inl (Or.inr (Or.inl h)) | exact Or.inl (Or.inr (Or.inr h)) | apply Or.inr)); done) | simp [h]
    · have hI := hfr (I, oI) (.head _)
      have hCd := hfr (C, oC) (.tail _ (.head _))
      have hDd := hfr (D, LCg.lst (refs ts)) (.tail _ (.tail _ (.head _)))
      simp only [List.mem_append, List.mem_singleton] at hp
      rcases hp with (hp | rfl) | hp
      · exact off.mem p (List.mem_append_left _ hp)
      · exact ⟨(Nat.ne_of_lt hI).symm, (Nat.ne_of_lt hCd).symm, (Nat.ne_of_lt hDd).symm⟩
      · exact off.mem p (List.mem_append_right _ hp)
    · have e : refs (ts ++ [(d, pairO (Str.ofString "ONE") ⟨#[c]⟩ u1 u2)]) = refs ts ++ [.ref d] := by simp [refs]
      rw [e] at key
      exact key
theorem off1_mem {D : Addr} : ∀ {l : List (Addr × Obj)}, LCg.Off1 D l → ∀ p ∈ l, @Ne Nat p.1 D
  | [], _, _, h => nomatch h
  | _ :: _, x, p, h => by
    rcases List.mem_cons.mp h with rfl | h
    · exact x.1
    · exact off1_mem x.2 p h
theorem gap_ok {w : World} {mean : ExcName → Option Value} {mg mb : Str → Option Value} {rest : List (Addr × Obj)} {g least : Int} {tg tl : Tok} (hg : 0 ≤ g) (h0 : 0 ≤ least) (h1 : least ≤ 1) :
    CallOk w mean mg mb 495 [.int g tg, .int least tl] rest (fun v l' => ∃ D ts, v = .ref D ∧ l' = (D, LCg.lst (refs ts)) :: (ts ++ rest) ∧ Pairs ts (ones (gapT g least)) ∧ (∀ p ∈ (D, LCg.lst (refs ts)) :: ts, ∀ q ∈ rest, @Ne Nat q.1 p.1) ∧ ∀ p ∈ ts, @Ne Nat p.1 D) 14 140 := by
  intro dp un gd cn csn csg csc csm a ccd cl9 outer A₀ base h₀ L m s Q E B F X N T hd hu hret
  refine wpAny_call ?_
  k_dflt k_enter
  (repeat' (first | ((k_here; (with_reducible show wpAny _ _ (eval (Expr.ListComp _ _ _ _) _) _ _ _); k_dflt (refine' comp_str ?F ?hh ?c ?ce ?k ?n ?x ?_; (case F => k_asm); (case hh => rfl); (case c => exact rfl); (case ce => decide); (case k => rfl); (case n => decide); (case x => rfl); k_whole))) | (k_unfold; (try dsimp only)) | (k_end; kc_close) | walk1 | (dsimp only; walk1) | (leave1; walk_say "STEP leave1"; (try dsimp only)) | fail "no step"))
  · rename Fr _ _ _ _ => F8
    exact F8
  · rename News _ _ _ _ => N8
    exact N8
  · refine Nat.le_trans (Txt.slice_le _ _ _) ?_
    show 2 ≤ sizeLine
    decide
  · refine ones_rest (by assumption) (by assumption) (ts := []) (fun ts hp hf => ?_) _ 0 (Nat.zero_add _) .nil (fun _ h => nomatch h)
    intro D h' tk F' N' off
    (repeat' (first | ((k_here; (with_reducible show wpAny _ _ (eval (Expr.ListComp _ _ _ _) _) _ _ _); k_dflt (refine' comp_str ?F ?hh ?c ?ce ?k ?n ?x ?_; (case F => k_asm); (case hh => rfl); (case c => exact rfl); (case ce => decide); (case k => rfl); (case n => decide); (case x => rfl); k_whole))) | (k_unfold; (try dsimp only)) | (k_end; kc_close) | walk1 | (dsimp only; walk1) | (leave1; walk_say "STEP leave1"; (try dsimp only)) | fail "no step"))
    rename Fr _ _ _ _ => F8
    rename News _ _ _ _ => N8
    refine hret _ _ _ _ ⟨D, ts, rfl, rfl, hp, fun p hp' q hq => ?_, fun p hp' => off1_mem off p (List.mem_append_left _ hp')⟩ F8 N8
    rcases List.mem_cons.mp hp' with rfl | hp'
    · exact off1_mem off q (List.mem_append_right _ hq)
    · exact Nat.ne_of_lt (hf p hp' q hq)
end
section
open PySem PySem.W PyProof.Rows PySem.Calls
set_option maxRecDepth 100000
set_option maxHeartbeats 400000


theorem endsL {prog : Program} {w : World} {A : Around} {E : Value → Shared → Prop} {s : Shared} {h₀ : Heap} {L : Addr} {news : List (Addr × Obj)} {x y1 y2 : Str} {t u1 u2 : Tok} {D : Addr} {n : Nat} {Q : Value → Shared → Prop} (N : News h₀ L s.heap news) (hm : (D, ({ cls := .type "tuple", data := .seq #[.str y1 u1, .str y2 u2] n } : Obj)) ∈ news) {b : Bool} (e : (Txt.endswith x y1 || Txt.endswith x y2) = b)
    (h : Q (.bool b) s) : wpAny (model prog w) A (call (.builtin "str.endswith") [.str x t, .ref D]) Q E s := endsTup (N _ hm).1 (e ▸ h)
theorem endsB {prog : Program} {w : World} {A : Around} {E : Value → Shared → Prop} {s : Shared} {x y : Str} {t u : Tok} {Q : Value → Shared → Prop} {b : Bool} (e : Txt.endswith x y = b)
    (h : Q (.bool b) s) : wpAny (model prog w) A (call (.builtin "str.endswith") [.str x t, .str y u]) Q E s := SC.endswith (e ▸ h)
theorem execs_cut {M : Model} {A : Around} {env : Env} {st : Stmt} {r : List Stmt} {Q : Flow → Shared → Prop} {E : Value → Shared → Prop} {s : Shared}
    (h : wpAny M A (exec st env) (fun f s' => f = .next ∧ wpAny M A (execs r env) Q E s') E s) : wpAny M A (execs (st :: r) env) Q E s := by
  rw [execs_cons]
  exact wpAny_bind (wpAny_mono h (fun f s' h => by obtain ⟨rfl, h⟩ := h; exact h) fun _ _ e => e)
theorem ne_of_beq_false {l l' : List Nat} (h : (l == l') = false) : l ≠ l' := by simpa using h
noncomputable def cnumDef := defBack 10
noncomputable def cnElse : List Stmt := match cnumDef.2.1[2]? with | some (PySem.Stmt.If _ _ e _) => e | _ => []
noncomputable def cnSt (i : Nat) : Stmt := cnElse.getD i default
noncomputable abbrev cnEnv (L : Addr) : Env := envX (Str.ofString "cnum") cnumDef.2.2 L 469 (.ref 468) []
noncomputable abbrev cnA (dp un : Nat) (gd : Option (List Code)) (L : Addr) (outer : List Env) : Around := ktrTop dp un gd (Str.ofString "cnum") cnumDef.2.2 L 469 (.ref 468) [] outer
theorem s0x : Str.ofString "0x" = tx [48, 120] := by decide +kernel
theorem s0b : Str.ofString "0b" = tx [48, 98] := by decide +kernel
theorem s0 : Str.ofString "0" = tx [48] := by decide +kernel
theorem sl : Str.ofString "l" = tx [108] := by decide +kernel
theorem su : Str.ofString "u" = tx [117] := by decide +kernel
/-- what cnum takes off ahead of the digits, and the base -/
noncomputable def numB (low : List Nat) : List Nat × Nat := if low.take 2 = [48, 120] then (low.drop 2, 16) else if low.take 2 = [48, 98] then (low.drop 2, 2) else if low.take 1 = [48] then (low, 8) else (low, 10)

theorem cn_s1 {w : World} {mean : ExcName → Option Value} {mg mb : Str → Option Value} {rest : List (Addr × Obj)} {dp un : Nat} {gd : Option (List Code)} {L : Addr} {outer : List Env} {A₀ : Around} {base h₀ : Heap} {m : Str → Option Value} {s : Shared} {E : Value → Shared → Prop} {Q : Flow → Shared → Prop} (B : Below A₀ base outer h₀) (X : (hd.heap_39 w.params).In h₀) (T : Top view loose mean mg mb h₀) (hdp : dp + 10 < recursionLimit) (hun : un + 100 < cLine) (F : Fr h₀ L s.heap m) (N : News h₀ L s.heap rest) {low : List Nat} {tl : Tok} (hn : m (Str.ofString "num") = some (.str (tx low) tl)) (hl : low.length ≤ 600)
    (h : ∀ h' tk' m' t1 t2, m' (Str.ofString "num") = some (.str (tx (numB low).1) t1) → m' (Str.ofString "base") = some (.int (numB low).2 t2) → Fr h₀ L h' m' → News h₀ L h' rest → Q .next { s with heap := h', toks := tk' }) : wpAny (model PySem.Challenge.pw_rk0008_01 w) (cnA dp un gd L outer) (exec (cnSt 0) (cnEnv L)) Q E s := by
  have eL : cnumDef = cnumDef := rfl
  conv at eL => rhs; whnf
  have eU : cnSt 0 = cnSt 0 := rfl
  conv at eU => rhs; whnf
  rw [eU]
  unfold cnA cnEnv
  rw [eL]
  dsimp only
  walk1
  (repeat' (first | ((k_here; (with_reducible show wpAny _ _ (eval (Expr.Name _ _) _) _ _ _); k_dflt (refine' nameX_L ?F ?v ?_ ?a ?b; (case a => rfl); (case b => rfl); (case F => k_asm); (case v => first | assumption | exact rfl | exact (if_neg (by decide)).trans (by assumption) | exact (if_neg (by decide)).trans ((if_neg (by decide)).trans (by assumption))); k_whole))) | (k_unfold; (try dsimp only)) | (k_end; kc_close) | walk1 | (dsimp only; walk1) | (leave1; walk_say "STEP leave1"; (try dsimp only)) | fail "no step"))
  all_goals (rename Fr _ _ _ _ => F8; rename News _ _ _ _ => N8)
  · rename Txt.startswith _ (Str.ofString "0x") = true => c1
    rw [s0x, starts_tx] at c1
    have c1 := eq_of_beq c1
    have e : numB low = (low.drop 2, 16) := by unfold numB; exact if_pos c1
    have hl2 : 2 ≤ low.length := by have := congrArg List.length c1; simp at this; omega
    exact h _ _ _ _ _ ((if_neg (by decide)).trans ((if_pos rfl).trans (by rw [e, ← slice_from hl2]; rfl))) ((if_pos rfl).trans (by rw [e]; rfl)) F8 N8
  · rename Txt.startswith _ (Str.ofString "0x") = false => c1
    rename Txt.startswith _ (Str.ofString "0b") = true => c2
    rw [s0x, starts_tx] at c1
    rw [s0b, starts_tx] at c2
    have c2 := eq_of_beq c2
    have e : numB low = (low.drop 2, 2) := by unfold numB; rw [if_neg (show low.take 2 ≠ [48, 120] from ne_of_beq_false c1), if_pos (show low.take 2 = [48, 98] from c2)]
    have hl2 : 2 ≤ low.length := by have := congrArg List.length c2; simp at this; omega
    exact h _ _ _ _ _ ((if_neg (by decide)).trans ((if_pos rfl).trans (by rw [e, ← slice_from hl2]; rfl))) ((if_pos rfl).trans (by rw [e]; rfl)) F8 N8
  · rename Txt.startswith _ (Str.ofString "0x") = false => c1
    rename Txt.startswith _ (Str.ofString "0b") = false => c2
    rename Txt.startswith _ (Str.ofString "0") = true => c3
    rw [s0x, starts_tx] at c1
    rw [s0b, starts_tx] at c2
    rw [s0, starts_tx] at c3
    have e : numB low = (low, 8) := by unfold numB; rw [if_neg (show low.take 2 ≠ [48, 120] from ne_of_beq_false c1), if_neg (show low.take 2 ≠ [48, 98] from ne_of_beq_false c2), if_pos (show low.take 1 = [48] from eq_of_beq c3)]
    exact h _ _ _ _ _ ((if_neg (by decide)).trans (by rw [e]; exact hn)) ((if_pos rfl).trans (by rw [e]; rfl)) F8 N8
  · rename Txt.startswith _ (Str.ofString "0x") = false => c1
    rename Txt.startswith _ (Str.ofString "0b") = false => c2
    rename Txt.startswith _ (Str.ofString "0") = false => c3
    rw [s0x, starts_tx] at c1
    rw [s0b, starts_tx] at c2
    rw [s0, starts_tx] at c3
    have e : numB low = (low, 10) := by unfold numB; rw [if_neg (show low.take 2 ≠ [48, 120] from ne_of_beq_false c1), if_neg (show low.take 2 ≠ [48, 98] from ne_of_beq_false c2), if_neg (show low.take 1 ≠ [48] from ne_of_beq_false c3)]
    exact h _ _ _ _ _ ((if_neg (by decide)).trans (by rw [e]; exact hn)) ((if_pos rfl).trans (by rw [e]; rfl)) F8 N8
/-- a ledger's tail grown by new objects -/
noncomputable def Grows (r r' : List (Addr × Obj)) : Prop := ∃ g, r' = g ++ r ∧ ∀ p ∈ g, ∀ q ∈ r, @LT.lt Nat _ q.1 p.1
theorem Grows.refl (r : List (Addr × Obj)) : Grows r r := ⟨[], rfl, fun _ h => nomatch h⟩
theorem Grows.sub {r r' : List (Addr × Obj)} (x : Grows r r') : ∀ p ∈ r, p ∈ r' := by
  obtain ⟨g, rfl, _⟩ := x
  exact fun p hp => List.mem_append_right _ hp
theorem Grows.cons {r r' : List (Addr × Obj)} {d : Addr} {o : Obj} (x : Grows r r') (h : ∀ p ∈ r', @LT.lt Nat _ p.1 d) : Grows r ((d, o) :: r') := by
  obtain ⟨g, rfl, hg⟩ := x
  refine ⟨(d, o) :: g, rfl, fun p hp q hq => ?_⟩
  rcases List.mem_cons.mp hp with rfl | hp
  · exact h q (List.mem_append_right _ hq)
  · exact hg p hp q hq
theorem Grows.trans {r r' r'' : List (Addr × Obj)} (x : Grows r r') (y : Grows r' r'') : Grows r r'' := by
  obtain ⟨g, rfl, hg⟩ := x
  obtain ⟨g', rfl, hg'⟩ := y
  refine ⟨g' ++ g, by simp, fun p hp q hq => ?_⟩
  rcases List.mem_append.mp hp with hp | hp
  · exact hg' p hp q (List.mem_append_right _ hq)
  · exact hg p hp q hq
theorem news_swap {h₀ h : Heap} {L : Addr} {p q : Addr × Obj} {r : List (Addr × Obj)} (N : News h₀ L h (p :: q :: r)) : News h₀ L h (q :: p :: r) := fun x hx => by
  rcases List.mem_cons.mp hx with rfl | hx
  · exact N _ (.tail _ (.head _))
  · rcases List.mem_cons.mp hx with rfl | hx
    · exact N _ (.head _)
    · exact N _ (.tail _ (.tail _ hx))
theorem off_cons {D d : Addr} {o : Obj} {r : List (Addr × Obj)} (h : @LT.lt Nat _ D d) (x : OwnOff r [D]) : OwnOff ((d, o) :: r) [D] := fun p hp b hb => by
  rcases List.mem_cons.mp hp with rfl | hp
  · rw [List.mem_singleton.mp hb]; exact (Nat.ne_of_lt h).symm
  · exact x p hp b hb
noncomputable def word (c : Nat) : Str := if c = 117 then Str.ofString "unsigned" else Str.ofString "long"
/-- the list of words: the objects' values -/
inductive Words : List Value → List Str → Prop
  | nil : Words [] []
  | snoc {vs : List Value} {ws : List Str} {x : Str} {t : Tok} : Words vs ws → Words (vs ++ [.str x t]) (ws ++ [x])
theorem cn_while {w : World} {mean : ExcName → Option Value} {mg mb : Str → Option Value} {rest : List (Addr × Obj)} {dp un : Nat} {gd : Option (List Code)} {L : Addr} {outer : List Env} {A₀ : Around} {base h₀ : Heap} {m : Str → Option Value} {s : Shared} {E : Value → Shared → Prop} {Q : Flow → Shared → Prop} (B : Below A₀ base outer h₀) (X : (hd.heap_39 w.params).In h₀) (T : Top view loose mean mg mb h₀) (hdp : dp + 10 < recursionLimit) (hun : un + 100 < cLine) (F : Fr h₀ L s.heap m) {D : Addr} {nD : Nat} (hoff : OwnOff rest [D]) (N : News h₀ L s.heap ((D, PySem.W.listOf ([] : List Value).toArray nD) :: rest)) {dg sf : List Nat} {tl tb : Tok} {b : Int} (hn : m (Str.ofString "num") = some (.str (tx (dg ++ sf)) tl)) (hb : m (Str.ofString "base") = some (.int b tb)) (hD : m (Str.ofString "type_specifiers") = some (.ref D)) (hsf : ∀ c ∈ sf, c = 108 ∨ c = 117) (hsl : sf.length ≤ 20) (hdl : dg.length ≤ 400)
    (hdg : ∀ c l, dg = l ++ [c] → c ≠ 108 ∧ c ≠ 117) (hE : PassesOwn (model PySem.Challenge.pw_rk0008_01 w) (cnA dp un gd L outer) (cnEnv L) E)
    (h : ∀ h' tk' m' t1 n' rest' vs, m' (Str.ofString "num") = some (.str (tx dg) t1) → m' (Str.ofString "base") = some (.int b tb) → m' (Str.ofString "type_specifiers") = some (.ref D) → Words vs (sf.reverse.map word) → Fr h₀ L h' m' → News h₀ L h' ((D, PySem.W.listOf vs.toArray n') :: rest') → Grows rest rest' → OwnOff rest' [D] → Q .next { s with heap := h', toks := tk' }) : wpAny (model PySem.Challenge.pw_rk0008_01 w) (cnA dp un gd L outer) (exec (cnSt 2) (cnEnv L)) Q E s := by
  have eL : cnumDef = cnumDef := rfl
  conv at eL => rhs; whnf
  have eU : cnSt 2 = cnSt 2 := rfl
  conv at eU => rhs; whnf
  rw [eU]
  unfold cnA cnEnv
  rw [eL]
  dsimp only
  refine While_inv2 (n₀ := sf.length) (fun n m' nw => ∃ keep gone t1 n' rest' vs, sf = keep ++ gone ∧ n = keep.length ∧ m' (Str.ofString "num") = some (.str (tx (dg ++ keep)) t1) ∧ m' (Str.ofString "base") = some (.int b tb) ∧ m' (Str.ofString "type_specifiers") = some (.ref D) ∧ Words vs (gone.reverse.map word) ∧ vs.length = gone.length ∧
    nw = (D, PySem.W.listOf vs.toArray n') :: rest' ∧ Grows rest rest' ∧ OwnOff rest' [D]) F N ⟨sf, [], tl, nD, rest, [], by simp, rfl, hn, hb, hD, .nil, rfl, rfl, .refl _, hoff⟩ ?_ (hE := hE)
  rintro n m₁ news₁ h₁ tk₁ F₁ N₁ ⟨keep, gone, t1, n', rest, vs, hke, rfl, hn1, hb1, hD1, hw, hvl, rfl, hsub, hoff1⟩
  clear hoff
  have hsl9 : vs.length ≤ 100 := by rw [hvl]; have := congrArg List.length hke; simp at this; omega
  have hlk : (dg ++ keep).length ≤ 600 := by have := congrArg List.length hke; simp at this ⊢; omega
  have hks : ∀ c ∈ keep, c = 108 ∨ c = 117 := fun c hc => hsf c (hke ▸ List.mem_append_left _ hc)
  rcases List.eq_nil_or_concat keep with rfl | ⟨k', c, rfl⟩
  · have e1 : Txt.endswith (tx (dg ++ [])) (Str.ofString "l") = false ∧ Txt.endswith (tx (dg ++ [])) (Str.ofString "u") = false := by
      rw [List.append_nil, sl, su]
      rcases List.eq_nil_or_concat dg with rfl | ⟨l, c, rfl⟩
      · exact ⟨ends_nil _, ends_nil _⟩
      · rw [List.concat_eq_append] at hdg ⊢
        have := hdg c l rfl
        rw [ends_one, ends_one]
        exact ⟨by simp [this.1], by simp [this.2]⟩
    have e2 : (Txt.endswith (tx (dg ++ [])) (Str.ofString "l") || Txt.endswith (tx (dg ++ [])) (Str.ofString "u")) = false := by rw [e1.1, e1.2]; rfl
    (repeat' (first | ((k_here; (with_reducible show wpAny _ _ (call (Value.builtin "str.endswith") [Value.str _ _, Value.str _ _]) _ _ _); k_dflt (refine' endsB ?e ?_; (case e => assumption); k_whole))) | ((k_here; (with_reducible show wpAny _ _ (call (Value.builtin "str.endswith") [Value.str _ _, Value.ref _]) _ _ _); k_dflt (refine' endsL ?N ?m ?e ?_; (case N => k_asm); (case m => k_mem); (case e => assumption); k_whole))) | ((k_here; (with_reducible show wpAny _ _ (eval (Expr.Name _ _) _) _ _ _); k_dflt (refine' nameX_L ?F ?v ?_ ?a ?b; (case a => rfl); (case b => rfl); (case F => k_asm); (case v => first | assumption | exact rfl | exact (if_neg (by decide)).trans (by assumption) | exact (if_neg (by decide)).trans ((if_neg (by decide)).trans (by assumption))); k_whole))) | (k_unfold; (try dsimp only)) | (k_end; kc_close) | walk1 | (dsimp only; walk1) | (leave1; walk_say "STEP leave1"; (try dsimp only)) | fail "no step"))
    rename Fr _ _ _ _ => F8
    rename News _ _ _ _ => N8
    rename _ ∧ AllLt _ rest => l1
    have hl1 := l1.1
    rw [List.nil_append] at hke
    subst hke
    rw [List.append_nil] at hn1
    exact h _ _ m₁ t1 n' (_ :: rest) vs hn1 hb1 hD1 hw F8 (news_swap N8) (hsub.cons (by assumption)) (off_cons hl1 hoff1)
  · rw [List.concat_eq_append] at hn1 hlk hks hke
    have ec : Txt.endswith (tx (dg ++ (k' ++ [c]))) (Str.ofString "l") = (c == 108) ∧ Txt.endswith (tx (dg ++ (k' ++ [c]))) (Str.ofString "u") = (c == 117) := by
      rw [sl, su, ← List.append_assoc]
      exact ⟨ends_one _ _ _, ends_one _ _ _⟩
    have esl : Txt.slice (tx (dg ++ (k' ++ [c]))) none (some (-1)) = tx (dg ++ k') := by rw [← List.append_assoc]; exact slice_init _ _
    rcases hks c (by simp) with rfl | rfl
    · have e1 : Txt.endswith (tx (dg ++ (k' ++ [108]))) (Str.ofString "l") = true := ec.1
      have e2 : Txt.endswith (tx (dg ++ (k' ++ [108]))) (Str.ofString "u") = false := ec.2
      have e3 : (Txt.endswith (tx (dg ++ (k' ++ [108]))) (Str.ofString "l") || Txt.endswith (tx (dg ++ (k' ++ [108]))) (Str.ofString "u")) = true := by rw [e1]; rfl
      clear ec
      (repeat' (first | ((k_here; (with_reducible show wpAny _ _ (call (Value.builtin "str.endswith") [Value.str _ _, Value.str _ _]) _ _ _); k_dflt (refine' endsB ?e ?_; (case e => assumption); k_whole))) | ((k_here; (with_reducible show wpAny _ _ (call (Value.builtin "str.endswith") [Value.str _ _, Value.ref _]) _ _ _); k_dflt (refine' endsL ?N ?m ?e ?_; (case N => k_asm); (case m => k_mem); (case e => assumption); k_whole))) | ((k_here; (with_reducible show wpAny _ _ (eval (Expr.Name _ _) _) _ _ _); k_dflt (refine' nameX_L ?F ?v ?_ ?a ?b; (case a => rfl); (case b => rfl); (case F => k_asm); (case v => first | assumption | exact rfl | exact (if_neg (by decide)).trans (by assumption) | exact (if_neg (by decide)).trans ((if_neg (by decide)).trans (by assumption))); k_whole))) | (k_unfold; (try dsimp only)) | (k_end; kc_close) | walk1 | (dsimp only; walk1) | (leave1; walk_say "STEP leave1"; (try dsimp only)) | fail "no step"))
      rename Fr _ _ _ _ => F8
      rename News _ _ _ _ => N8
      rename _ ∧ AllLt _ rest => l1
      have hl1 := l1.1
      simp only [List.push_toArray] at N8
      have hke2 : sf = k' ++ (108 :: gone) := by rw [hke, List.append_assoc]; rfl
      refine ⟨_, _, _, _, k'.length, rfl, F8, news_swap N8, by simp, k', 108 :: gone, _, _, _, _, hke2, rfl, (if_pos rfl).trans (by rw [esl]), (if_neg (by decide)).trans hb1, (if_neg (by decide)).trans hD1, ?_, by simp [hvl], rfl, hsub.cons (by assumption), off_cons hl1 hoff1⟩
      rw [List.reverse_cons, List.map_append]
      exact .snoc hw
    · have e1 : Txt.endswith (tx (dg ++ (k' ++ [117]))) (Str.ofString "l") = false := ec.1
      have e2 : Txt.endswith (tx (dg ++ (k' ++ [117]))) (Str.ofString "u") = true := ec.2
      have e3 : (Txt.endswith (tx (dg ++ (k' ++ [117]))) (Str.ofString "l") || Txt.endswith (tx (dg ++ (k' ++ [117]))) (Str.ofString "u")) = true := by rw [e2, Bool.or_true]
      clear ec
      (repeat' (first | ((k_here; (with_reducible show wpAny _ _ (call (Value.builtin "str.endswith") [Value.str _ _, Value.str _ _]) _ _ _); k_dflt (refine' endsB ?e ?_; (case e => assumption); k_whole))) | ((k_here; (with_reducible show wpAny _ _ (call (Value.builtin "str.endswith") [Value.str _ _, Value.ref _]) _ _ _); k_dflt (refine' endsL ?N ?m ?e ?_; (case N => k_asm); (case m => k_mem); (case e => assumption); k_whole))) | ((k_here; (with_reducible show wpAny _ _ (eval (Expr.Name _ _) _) _ _ _); k_dflt (refine' nameX_L ?F ?v ?_ ?a ?b; (case a => rfl); (case b => rfl); (case F => k_asm); (case v => first | assumption | exact rfl | exact (if_neg (by decide)).trans (by assumption) | exact (if_neg (by decide)).trans ((if_neg (by decide)).trans (by assumption))); k_whole))) | (k_unfold; (try dsimp only)) | (k_end; kc_close) | walk1 | (dsimp only; walk1) | (leave1; walk_say "STEP leave1"; (try dsimp only)) | fail "no step"))
      rename Fr _ _ _ _ => F8
      rename News _ _ _ _ => N8
      rename _ ∧ AllLt _ rest => l1
      have hl1 := l1.1
      simp only [List.push_toArray] at N8
      have hke2 : sf = k' ++ (117 :: gone) := by rw [hke, List.append_assoc]; rfl
      refine ⟨_, _, _, _, k'.length, rfl, F8, news_swap N8, by simp, k', 117 :: gone, _, _, _, _, hke2, rfl, (if_pos rfl).trans (by rw [esl]), (if_neg (by decide)).trans hb1, (if_neg (by decide)).trans hD1, ?_, by simp [hvl], rfl, hsub.cons (by assumption), off_cons hl1 hoff1⟩
      rw [List.reverse_cons, List.map_append]
      exact .snoc hw
end
section
open PySem PySem.W PyProof.Rows PySem.Calls
set_option maxRecDepth 100000
set_option maxHeartbeats 400000


/-- a text that int reads in a base -/
structure IntTx (x : Str) (b n : Int) : Prop where
  ex : ∃ k : Nat, b = (k : Int) ∧ 2 ≤ k ∧ k ≤ 36 ∧ x.length ≤ 640 ∧ x.cps.all (· < 128) = true ∧ x.cps.toList.takeWhile (· != 0) = x.cps.toList ∧ reads k x.cps.toList n
theorem intK {prog : Program} {w : World} {A : Around} {E : Value → Shared → Prop} {s : Shared} {x : Str} {u t : Tok} {b n : Int} {Q : Value → Shared → Prop} (i : IntTx x b n) (h : Q (.int n s.toks) { s with toks := s.toks + 1 }) : wpAny (model prog w) A (call (.type "int") [.str x u, .int b t]) Q E s := by
  obtain ⟨k, rfl, h1, h2, h3, h4, h5, h6⟩ := i.ex
  exact call_textB h1 h2 h3 h4 h5 h6 h
theorem Words.length {vs : List Value} {ws : List Str} (h : Words vs ws) : vs.length = ws.length := by
  induction h with
  | nil => rfl
  | snoc _ ih => simp [ih]
theorem sdot : Str.ofString "." = tx [46] := by decide +kernel
theorem execs_ret {M : Model} {A : Around} {env : Env} {st : Stmt} {r : List Stmt} {Q : Flow → Shared → Prop} {E : Value → Shared → Prop} {s : Shared}
    (h : wpAny M A (exec st env) (fun f s' => ∃ v, f = .ret v ∧ Q (.ret v) s') E s) : wpAny M A (execs (st :: r) env) Q E s := by
  rw [execs_cons]
  exact wpAny_bind (wpAny_mono h (fun f s' h => by obtain ⟨v, rfl, h⟩ := h; exact wpAny_pure h) fun _ _ e => e)
theorem cn_s2 {w : World} {mean : ExcName → Option Value} {mg mb : Str → Option Value} {rest : List (Addr × Obj)} {dp un : Nat} {gd : Option (List Code)} {L : Addr} {outer : List Env} {A₀ : Around} {base h₀ : Heap} {m : Str → Option Value} {s : Shared} {E : Value → Shared → Prop} {Q : Flow → Shared → Prop} (B : Below A₀ base outer h₀) (X : (hd.heap_39 w.params).In h₀) (T : Top view loose mean mg mb h₀) (hdp : dp + 10 < recursionLimit) (hun : un + 100 < cLine) (F : Fr h₀ L s.heap m) (N : News h₀ L s.heap rest)
    (h : ∀ h' tk' D, Fr h₀ L h' (fun y => if y = Str.ofString "type_specifiers" then some (.ref D) else m y) → News h₀ L h' ((D, PySem.W.listOf ([] : List Value).toArray 0) :: rest) → (∀ p ∈ rest, @LT.lt Nat _ p.1 D) → Q .next { s with heap := h', toks := tk' }) : wpAny (model PySem.Challenge.pw_rk0008_01 w) (cnA dp un gd L outer) (exec (cnSt 1) (cnEnv L)) Q E s := by
  have eL : cnumDef = cnumDef := rfl
  conv at eL => rhs; whnf
  have eU : cnSt 1 = cnSt 1 := rfl
  conv at eU => rhs; whnf
  rw [eU]
  unfold cnA cnEnv
  rw [eL]
  dsimp only
  walk1
  k_steps
  rename Fr _ _ _ _ => F8
  rename News _ _ _ _ => N8
  exact h _ _ _ F8 N8 (by assumption)
theorem cn_s4 {w : World} {mean : ExcName → Option Value} {mg mb : Str → Option Value} {rest : List (Addr × Obj)} {dp un : Nat} {gd : Option (List Code)} {L : Addr} {outer : List Env} {A₀ : Around} {base h₀ : Heap} {m : Str → Option Value} {s : Shared} {E : Value → Shared → Prop} {Q : Flow → Shared → Prop} (B : Below A₀ base outer h₀) (X : (hd.heap_39 w.params).In h₀) (T : Top view loose mean mg mb h₀) (hdp : dp + 10 < recursionLimit) (hun : un + 100 < cLine) (F : Fr h₀ L s.heap m) {D : Addr} {nD : Nat} {vs : List Value} (hvl : vs.length ≤ 100) (hoff : OwnOff rest [D]) (N : News h₀ L s.heap ((D, PySem.W.listOf vs.toArray nD) :: rest)) (hD : m (Str.ofString "type_specifiers") = some (.ref D))
    (h : ∀ h' tk' n' vs', (vs = [] → ∃ t, vs' = [.str (Str.ofString "int") t]) → (vs ≠ [] → vs' = vs) → Fr h₀ L h' m → News h₀ L h' ((D, PySem.W.listOf vs'.toArray n') :: rest) → Q .next { s with heap := h', toks := tk' }) : wpAny (model PySem.Challenge.pw_rk0008_01 w) (cnA dp un gd L outer) (exec (cnSt 3) (cnEnv L)) Q E s := by
  have eL : cnumDef = cnumDef := rfl
  conv at eL => rhs; whnf
  have eU : cnSt 3 = cnSt 3 := rfl
  conv at eU => rhs; whnf
  rw [eU]
  unfold cnA cnEnv
  rw [eL]
  dsimp only
  cases vs with
  | nil =>
    walk1
    (repeat' (first | ((k_here; (with_reducible show wpAny _ _ (eval (Expr.Name _ _) _) _ _ _); k_dflt (refine' nameX_L ?F ?v ?_ ?a ?b; (case a => rfl); (case b => rfl); (case F => k_asm); (case v => first | assumption | exact rfl | exact (if_neg (by decide)).trans (by assumption) | exact (if_neg (by decide)).trans ((if_neg (by decide)).trans (by assumption))); k_whole))) | ((k_here; (with_reducible show wpAny _ _ (truthy (Value.ref _)) _ _ _); k_dflt (refine' truthyL ?N ?m ?z ?_; (case N => k_asm); (case m => k_mem); (case z => (try simp only [List.size_toArray, List.length_map, List.length_append, List.length_cons, List.length_nil]); omega); k_whole); (try simp only [List.isEmpty_toArray, List.isEmpty_cons, List.isEmpty_nil, Bool.not_false, Bool.not_true]))) | (k_unfold; (try dsimp only)) | (k_end; kc_close) | walk1 | (dsimp only; walk1) | (leave1; walk_say "STEP leave1"; (try dsimp only)) | fail "no step"))
    rename Fr _ _ _ _ => F8
    rename News _ _ _ _ => N8
    simp only [List.push_toArray, List.nil_append] at N8
    exact h _ _ _ _ (fun _ => ⟨_, rfl⟩) (fun e => absurd rfl e) F8 N8
  | cons v r =>
    walk1
    (repeat' (first | ((k_here; (with_reducible show wpAny _ _ (eval (Expr.Name _ _) _) _ _ _); k_dflt (refine' nameX_L ?F ?v ?_ ?a ?b; (case a => rfl); (case b => rfl); (case F => k_asm); (case v => first | assumption | exact rfl | exact (if_neg (by decide)).trans (by assumption) | exact (if_neg (by decide)).trans ((if_neg (by decide)).trans (by assumption))); k_whole))) | ((k_here; (with_reducible show wpAny _ _ (truthy (Value.ref _)) _ _ _); k_dflt (refine' truthyL ?N ?m ?z ?_; (case N => k_asm); (case m => k_mem); (case z => (try simp only [List.size_toArray, List.length_map, List.length_append, List.length_cons, List.length_nil]); omega); k_whole); (try simp only [List.isEmpty_toArray, List.isEmpty_cons, List.isEmpty_nil, Bool.not_false, Bool.not_true]))) | (k_unfold; (try dsimp only)) | (k_end; kc_close) | walk1 | (dsimp only; walk1) | (leave1; walk_say "STEP leave1"; (try dsimp only)) | fail "no step"))
    rename Fr _ _ _ _ => F8
    rename News _ _ _ _ => N8
    exact h _ _ _ _ (fun e => nomatch e) (fun _ => rfl) F8 N8
theorem cn_s5 {w : World} {mean : ExcName → Option Value} {mg mb : Str → Option Value} {rest : List (Addr × Obj)} {dp un : Nat} {gd : Option (List Code)} {L : Addr} {outer : List Env} {A₀ : Around} {base h₀ : Heap} {m : Str → Option Value} {s : Shared} {E : Value → Shared → Prop} {Q : Flow → Shared → Prop} (B : Below A₀ base outer h₀) (X : (hd.heap_39 w.params).In h₀) (T : Top view loose mean mg mb h₀) (hdp : dp + 10 < recursionLimit) (hun : un + 100 < cLine) (F : Fr h₀ L s.heap m) {D : Addr} {lo : Obj} (N : News h₀ L s.heap ((D, lo) :: rest)) (hD : m (Str.ofString "type_specifiers") = some (.ref D)) {x : Str} {b n : Int} {tx tb : Tok} (hn : m (Str.ofString "num") = some (.str x tx)) (hb : m (Str.ofString "base") = some (.int b tb)) (hi : IntTx x b n)
    (h : ∀ h' tk' U t1, Fr h₀ L h' m → News h₀ L h' ((U, ({ cls := .type "tuple", data := .seq #[.int n t1, .ref D] } : Obj)) :: (D, lo) :: rest) → (∀ p ∈ (D, lo) :: rest, @LT.lt Nat _ p.1 U) → Q (.ret (.ref U)) { s with heap := h', toks := tk' }) : wpAny (model PySem.Challenge.pw_rk0008_01 w) (cnA dp un gd L outer) (exec (cnSt 4) (cnEnv L)) Q E s := by
  have eL : cnumDef = cnumDef := rfl
  conv at eL => rhs; whnf
  have eU : cnSt 4 = cnSt 4 := rfl
  conv at eU => rhs; whnf
  rw [eU]
  unfold cnA cnEnv
  rw [eL]
  dsimp only
  walk1
  (repeat' (first | ((k_here; (with_reducible show wpAny _ _ (call (Value.type "int") [Value.str _ _, Value.int _ _]) _ _ _); k_dflt (refine' intK ?h ?_; (case h => assumption); k_whole))) | ((k_here; (with_reducible show wpAny _ _ (eval (Expr.Name _ _) _) _ _ _); k_dflt (refine' nameX_L ?F ?v ?_ ?a ?b; (case a => rfl); (case b => rfl); (case F => k_asm); (case v => first | assumption | exact rfl | exact (if_neg (by decide)).trans (by assumption) | exact (if_neg (by decide)).trans ((if_neg (by decide)).trans (by assumption))); k_whole))) | (k_unfold; (try dsimp only)) | (k_end; kc_close) | walk1 | (dsimp only; walk1) | (leave1; walk_say "STEP leave1"; (try dsimp only)) | fail "no step"))
  rename Fr _ _ _ _ => F8
  rename News _ _ _ _ => N8
  rename _ ∧ AllLt _ rest => l1
  have hl1 := l1.1
  exact h _ _ _ _ F8 N8 (List.forall_mem_cons.mpr ⟨hl1, by assumption⟩)
/-- the words of a number's suffix -/
noncomputable def wordsOf (sf : List Nat) : List Str := if sf = [] then [Str.ofString "int"] else sf.reverse.map word
theorem cnum_ok {w : World} {mean : ExcName → Option Value} {mg mb : Str → Option Value} {rest : List (Addr × Obj)} {cs dg sf : List Nat} {b : Nat} {n : Int} {tt : Tok} (hasc : ∀ c ∈ cs, c < 128) (hdot : 46 ∉ cs) (hl : cs.length ≤ 200) (hB : numB (cs.map lo1) = (dg ++ sf, b)) (hsf : ∀ c ∈ sf, c = 108 ∨ c = 117) (hsl : sf.length ≤ 20) (hdl : dg.length ≤ 400)
    (hdg : ∀ c l, dg = l ++ [c] → c ≠ 108 ∧ c ≠ 117) (hi : IntTx (tx dg) b n) :
    CallOk w mean mg mb 469 [.str (tx cs) tt] rest (fun v l' => ∃ U D n' vs rest' t1, v = .ref U ∧ l' = (U, ({ cls := .type "tuple", data := .seq #[.int n t1, .ref D] } : Obj)) :: (D, PySem.W.listOf vs.toArray n') :: rest' ∧ Grows rest rest' ∧ (∀ q ∈ rest, @LT.lt Nat _ q.1 D) ∧ (∀ q ∈ rest, @LT.lt Nat _ q.1 U) ∧ Words vs (wordsOf sf)) 20 200 := by
  intro dp un gd cn csn csg csc csm a ccd cl9 outer A₀ base h₀ L m s Q E B F X N T hd hu hret
  have hlt : (tx cs).length ≤ 200 := by rw [tx_len]; exact hl
  refine wpAny_call ?_
  k_dflt k_enter
  iterate 32 (first | ((k_here; (with_reducible show wpAny _ _ (eval (Expr.Name _ _) _) _ _ _); k_dflt (refine' nameX_L ?F ?v ?_ ?a ?b; (case a => rfl); (case b => rfl); (case F => k_asm); (case v => first | assumption | exact rfl | exact (if_neg (by decide)).trans (by assumption) | exact (if_neg (by decide)).trans ((if_neg (by decide)).trans (by assumption))); k_whole))) | walk1)
  rotate_left
  · exfalso
    rename (Builtin.Str.occurrences _ _ _ _ _).isEmpty = false => c1
    have e := PySem.StrLaws.found_one (tx cs) 46
    rw [show (⟨#[46]⟩ : Str) = Str.ofString "." from sdot.symm, c1] at e
    exact hdot (by simpa using of_decide_eq_true e.symm)
  rename Below _ _ _ _ => B9
  rename Frag.In _ _ => X9
  rename Top _ _ _ _ _ _ => T9
  rename Fr _ _ _ _ => F9
  rename News _ _ _ _ => N9
  have hll : (cs.map lo1).length ≤ 600 := by rw [List.length_map]; omega
  have hr1 : dp + 1 + 10 < recursionLimit := by omega
  have hr2 : un + 3 + 100 < cLine := by omega
  change wpAny (model PySem.Challenge.pw_rk0008_01 w) (cnA _ _ _ _ _) (execs (cnSt 0 :: cnSt 1 :: cnSt 2 :: cnSt 3 :: cnSt 4 :: []) (cnEnv _)) _ _ _
  refine execs_cut (cn_s1 B9 X9 T9 hr1 hr2 F9 N9 (low := cs.map lo1) ((if_pos rfl).trans (by rw [lower_tx hasc])) hll fun h1 tk1 m1 t1 t2 hn1 hb1 F1 N1 => ⟨rfl, ?_⟩)
  rw [hB] at hn1 hb1
  refine execs_cut (cn_s2 B9 X9 T9 hr1 hr2 F1 N1 fun h2 tk2 D F2 N2 l2 => ⟨rfl, ?_⟩)
  refine execs_cut (cn_while B9 X9 T9 hr1 hr2 F2 (fun p hp b hb => by rw [List.mem_singleton.mp hb]; exact Nat.ne_of_lt (l2 p hp)) N2 ((if_neg (by decide)).trans hn1) ((if_neg (by decide)).trans hb1) (if_pos rfl) hsf hsl hdl hdg (by passes_own) fun h3 tk3 m3 t3 n3 rest3 vs hn3 hb3 hD3 hw F3 N3 hsub off3 => ⟨rfl, ?_⟩)
  have hvl : vs.length ≤ 100 := by rw [hw.length]; simp; omega
  refine execs_cut (cn_s4 B9 X9 T9 hr1 hr2 F3 hvl off3 N3 hD3 fun h4 tk4 n4 vs4 c1 c2 F4 N4 => ⟨rfl, ?_⟩)
  refine execs_ret (cn_s5 B9 X9 T9 hr1 hr2 F4 N4 hD3 hn3 hb3 hi fun h5 tk5 U t5 F5 N5 l5 => ⟨_, rfl, ?_⟩)
  (repeat' (first | ((k_here; (with_reducible show wpAny _ _ (eval (Expr.Name _ _) _) _ _ _); k_dflt (refine' nameX_L ?F ?v ?_ ?a ?b; (case a => rfl); (case b => rfl); (case F => k_asm); (case v => first | assumption | exact rfl | exact (if_neg (by decide)).trans (by assumption) | exact (if_neg (by decide)).trans ((if_neg (by decide)).trans (by assumption))); k_whole))) | (k_unfold; (try dsimp only)) | (k_end; kc_close) | walk1 | (dsimp only; walk1) | (leave1; walk_say "STEP leave1"; (try dsimp only)) | fail "no step"))
  rename Fr _ _ _ _ => F8
  rename News _ _ _ _ => N8
  refine hret _ _ _ _ ⟨U, D, n4, vs4, rest3, t5, rfl, rfl, hsub, l2, fun q hq => l5 q (.tail _ (hsub.sub q hq)), ?_⟩ F8 N8
  unfold wordsOf
  by_cases hsf0 : sf = []
  · subst hsf0
    rw [if_pos rfl]
    have hv0 : vs = [] := List.eq_nil_of_length_eq_zero (by rw [hw.length]; rfl)
    obtain ⟨t, e⟩ := c1 hv0
    rw [e]
    exact (Words.nil.snoc : Words ([] ++ [_]) ([] ++ [_]))
  · rw [if_neg hsf0, c2 (fun e => by rw [e] at hw; have := hw.length; simp at this; exact hsf0 (List.eq_nil_of_length_eq_zero this.symm))]
    exact hw
end
section
theorem loadH {M : Model} {A : Around} {E : Value → Shared → Prop} {s : Shared} {h₀ : Heap} {L a : Addr} {m : Str → Option Value} {cn : Str} {cs : Scope} {ccd : Value} {cl : List (Str × Addr)} {x : Str} {v : Value} {Q : Value → Shared → Prop} (F : Fr h₀ L s.heap m) (hv : m x = some v) (h : Q v s)
    (hk : cs.kind = .function := by rfl) (hx : (envX cn cs L a ccd cl).kindOf x = some .local := by rfl) : wpAny M A (loadName (envX cn cs L a ccd cl) x) Q E s := wpAny_loadName_local hk hx F.ns hv h
local macro_rules | `(tactic| walk_at "eval Name") => `(tactic| (k_here; k_dflt (refine' nameX_L ?F ?v ?_ ?a ?b; (case a => rfl); (case b => rfl); (case F => k_asm); (case v => (repeat (first | assumption | exact if_pos rfl | refine (if_neg (by decide)).trans ?_))); k_whole)))
local macro_rules | `(tactic| walk_at "loadName") => `(tactic| (k_here; k_dflt (refine' loadH ?F ?v ?_ ?a ?b; (case a => rfl); (case b => rfl); (case F => k_asm); (case v => (repeat (first | assumption | exact if_pos rfl | refine (if_neg (by decide)).trans ?_))); k_whole)))
section
open PySem PySem.W PyProof.Rows PySem.Calls
set_option maxRecDepth 100000
set_option maxHeartbeats 400000



noncomputable def lnDef := defBack 2
noncomputable def lnSt (i : Nat) : Stmt := lnDef.2.1.getD i default
noncomputable abbrev lnEnv (L : Addr) : Env := envX (Str.ofString "_law_number") lnDef.2.2 L 490 (.ref 489) []
noncomputable abbrev lnA (dp un : Nat) (gd : Option (List Code)) (L : Addr) (outer : List Env) : Around := ktrTop dp un gd (Str.ofString "_law_number") lnDef.2.2 L 490 (.ref 489) [] outer
/-- the base of a form -/
noncomputable def baseOf (k : Nat) : Int := if k = 0 then 10 else if k = 1 then 8 else if k < 4 then 16 else 2
/-- one name set -/
noncomputable abbrev setN (x : Str) (v : Value) (m : Str → Option Value) : Str → Option Value := fun y => if y = x then some v else m y
/-- the mark of a form -/
noncomputable def markOf (k : Nat) : List Nat := if k = 0 then [] else if k = 1 then [48] else if k = 2 then [48, 120] else if k = 3 then [48, 88] else if k = 4 then [48, 98] else [48, 66]

theorem ln_s0 {w : World} {mean : ExcName → Option Value} {mg mb : Str → Option Value} {rest : List (Addr × Obj)} {dp un : Nat} {gd : Option (List Code)} {L : Addr} {outer : List Env} {A₀ : Around} {base h₀ : Heap} {m : Str → Option Value} {s : Shared} {E : Value → Shared → Prop} {Q : Flow → Shared → Prop} (B : Below A₀ base outer h₀) (X : (hd.heap_39 w.params).In h₀) (T : Top view loose mean mg mb h₀) (hdp : dp + 10 < recursionLimit) (hun : un + 100 < cLine) (F : Fr h₀ L s.heap m) (N : News h₀ L s.heap rest) {a : Int} {ta : Tok} (ha : m (Str.ofString "a") = some (.int a ta))
    (h : ∀ h' tk' t, Fr h₀ L h' (setN (Str.ofString "form") (.int (a.fmod 6) t) m) → News h₀ L h' rest → Q .next { s with heap := h', toks := tk' }) : wpAny (model PySem.Challenge.pw_rk0008_01 w) (lnA dp un gd L outer) (exec (lnSt 0) (lnEnv L)) Q E s := by
  have eL : lnDef = lnDef := rfl
  conv at eL => rhs; whnf
  have eU : lnSt 0 = lnSt 0 := rfl
  conv at eU => rhs; whnf
  rw [eU]
  unfold lnA lnEnv
  rw [eL]
  dsimp only
  walk1
  k_steps
  rename Fr _ _ _ _ => F8
  rename News _ _ _ _ => N8
  exact h _ _ _ F8 N8
theorem par1 {c : Nat} (h : ((c % 2 : Nat) : Int) = 1) : c % 2 = 1 := by omega
theorem par0 {c : Nat} (h : ((c % 2 : Nat) : Int) ≠ 1) : c % 2 = 0 := by omega
theorem ln_s1 {w : World} {mean : ExcName → Option Value} {mg mb : Str → Option Value} {rest : List (Addr × Obj)} {dp un : Nat} {gd : Option (List Code)} {L : Addr} {outer : List Env} {A₀ : Around} {base h₀ : Heap} {m : Str → Option Value} {s : Shared} {E : Value → Shared → Prop} {Q : Flow → Shared → Prop} (B : Below A₀ base outer h₀) (X : (hd.heap_39 w.params).In h₀) (T : Top view loose mean mg mb h₀) (hdp : dp + 10 < recursionLimit) (hun : un + 100 < cLine) (F : Fr h₀ L s.heap m) (N : News h₀ L s.heap rest) {k : Nat} {tf : Tok} (hk : k < 6) (hf : m (Str.ofString "form") = some (.int k tf))
    (h : ∀ h' tk' t D o, Fr h₀ L h' (setN (Str.ofString "base") (.int (baseOf k) t) m) → News h₀ L h' ((D, o) :: rest) → (∀ p ∈ rest, p.1 < D) → Q .next { s with heap := h', toks := tk' }) : wpAny (model PySem.Challenge.pw_rk0008_01 w) (lnA dp un gd L outer) (exec (lnSt 1) (lnEnv L)) Q E s := by
  have eL : lnDef = lnDef := rfl
  conv at eL => rhs; whnf
  have eU : lnSt 1 = lnSt 1 := rfl
  conv at eU => rhs; whnf
  rw [eU]
  unfold lnA lnEnv
  rw [eL]
  dsimp only
  have hks : k = 0 ∨ k = 1 ∨ k = 2 ∨ k = 3 ∨ k = 4 ∨ k = 5 := six hk
  rcases hks with rfl | rfl | rfl | rfl | rfl | rfl
  all_goals (walk1; (repeat' (first | ((k_here; (with_reducible show wpAny _ _ (subscriptTail _ _ (Value.ref _) (Value.int _ _)) _ _ _); k_dflt (refine' itemL ?N ?m ?a ?b ?x ?_; (case N => k_asm); (case m => k_mem); (case a => decide); (case b => decide); (case x => (simp only [List.map_cons, List.getElem?_toArray, Int.toNat_zero, List.getElem?_cons_zero]; exact rfl)); k_whole))) | (k_unfold; (try dsimp only)) | (k_end; kc_close) | walk1 | (dsimp only; walk1) | (leave1; walk_say "STEP leave1"; (try dsimp only)) | fail "no step")))
  all_goals (rename Fr _ _ _ _ => F8; rename News _ _ _ _ => N8; exact h _ _ _ _ _ F8 N8 (by assumption))
theorem ln_s2 {w : World} {mean : ExcName → Option Value} {mg mb : Str → Option Value} {rest : List (Addr × Obj)} {dp un : Nat} {gd : Option (List Code)} {L : Addr} {outer : List Env} {A₀ : Around} {base h₀ : Heap} {m : Str → Option Value} {s : Shared} {E : Value → Shared → Prop} {Q : Flow → Shared → Prop} (B : Below A₀ base outer h₀) (X : (hd.heap_39 w.params).In h₀) (T : Top view loose mean mg mb h₀) (hdp : dp + 10 < recursionLimit) (hun : un + 100 < cLine) (F : Fr h₀ L s.heap m) (N : News h₀ L s.heap rest) {b ba : Int} {tb tc : Tok} (hb : m (Str.ofString "b") = some (.int b tb)) (hba : m (Str.ofString "base") = some (.int ba tc))
    (h : ∀ h' tk' t, Fr h₀ L h' (setN (Str.ofString "worth") (.int (b.fmod (if ba = 2 then 16777216 else 1000000000000)) t) m) → News h₀ L h' rest → Q .next { s with heap := h', toks := tk' }) : wpAny (model PySem.Challenge.pw_rk0008_01 w) (lnA dp un gd L outer) (exec (lnSt 2) (lnEnv L)) Q E s := by
  have eL : lnDef = lnDef := rfl
  conv at eL => rhs; whnf
  have eU : lnSt 2 = lnSt 2 := rfl
  conv at eU => rhs; whnf
  rw [eU]
  unfold lnA lnEnv
  rw [eL]
  dsimp only
  walk1
  k_steps
  · rename ba = 2 => c1
    rename Fr _ _ _ _ => F8
    rename News _ _ _ _ => N8
    rw [if_pos c1] at h
    exact h _ _ _ F8 N8
  · rename ba ≠ 2 => c1
    rename Fr _ _ _ _ => F8
    rename News _ _ _ _ => N8
    rw [if_neg c1] at h
    exact h _ _ _ F8 N8
theorem ln_s3 {w : World} {mean : ExcName → Option Value} {mg mb : Str → Option Value} {rest : List (Addr × Obj)} {dp un : Nat} {gd : Option (List Code)} {L : Addr} {outer : List Env} {A₀ : Around} {base h₀ : Heap} {m : Str → Option Value} {s : Shared} {E : Value → Shared → Prop} {Q : Flow → Shared → Prop} (B : Below A₀ base outer h₀) (X : (hd.heap_39 w.params).In h₀) (T : Top view loose mean mg mb h₀) (hdp : dp + 10 < recursionLimit) (hun : un + 100 < cLine) (F : Fr h₀ L s.heap m) (N : News h₀ L s.heap rest) {wo c : Int} {tb tc : Tok} (hb : m (Str.ofString "worth") = some (.int wo tb)) (hc : m (Str.ofString "c") = some (.int c tc))
    (h : ∀ h' tk' t D o, Fr h₀ L h' (setN (Str.ofString "rest") (.int wo tb) (setN (Str.ofString "cases") (.int c tc) (setN (Str.ofString "text") (.str (tx []) t) m))) → News h₀ L h' ((D, o) :: rest) → (∀ p ∈ rest, p.1 < D) → Q .next { s with heap := h', toks := tk' }) : wpAny (model PySem.Challenge.pw_rk0008_01 w) (lnA dp un gd L outer) (exec (lnSt 3) (lnEnv L)) Q E s := by
  have eL : lnDef = lnDef := rfl
  conv at eL => rhs; whnf
  have eU : lnSt 3 = lnSt 3 := rfl
  conv at eU => rhs; whnf
  rw [eU]
  unfold lnA lnEnv
  rw [eL]
  dsimp only
  walk1
  k_steps
  rename Fr _ _ _ _ => F8
  rename News _ _ _ _ => N8
  exact h _ _ _ _ _ F8 N8 (by assumption)
noncomputable def digCode (hi : Bool) (d : Nat) : Nat := if d < 10 then 48 + d else if hi then 55 + d else 87 + d
/-- the digits of a number, in drawn case -/
noncomputable def digT (b : Nat) : Nat → Nat → Nat → List Nat
  | 0, _, _ => []
  | f + 1, r, c => if r = 0 then [] else digT b f (r / b) (c / 2) ++ [digCode (c % 2 == 1) (r % b)]
theorem strIdx16 {prog : Program} {w : World} {A : Around} {E : Value → Shared → Prop} {s : Shared} {value slice : PySem.Expr} {x : Str} {t u : Tok} {i : Int} {Q : Value → Shared → Prop} (hx : x.length = 16) (h0 : 0 ≤ i) (h1 : i < 16) (h : Q (.str (Txt.item x i) s.toks) { s with toks := s.toks + 1 })
    (hs : subscripted slice false (.str x t) (.int i u) = operate [.str x t, .int i u] (getItem (.str x t) (.int i u)) := by with_unfolding_all rfl) : wpAny (model prog w) A (subscriptTail value slice (.str x t) (.int i u)) Q E s :=
  tail_any (typeIs_str _ _ _) F.slot_str_getitem.lookup (SB.getItem (fitsSsize_of (N := 9223372036854775808) (by omega) (by omega) (Int.le_refl _)) (charAt_isSome (by rw [hx]; omega) (by rw [hx]; omega)) h) hs
theorem item_hi : ∀ d : Nat, d < 16 → Txt.item (Str.ofString "0123456789ABCDEF") (d : Int) = tx [digCode true d] := by decide +kernel
theorem item_lo : ∀ d : Nat, d < 16 → Txt.item (Str.ofString "0123456789abcdef") (d : Int) = tx [digCode false d] := by decide +kernel
theorem ln_s4 {w : World} {mean : ExcName → Option Value} {mg mb : Str → Option Value} {rest : List (Addr × Obj)} {dp un : Nat} {gd : Option (List Code)} {L : Addr} {outer : List Env} {A₀ : Around} {base h₀ : Heap} {m : Str → Option Value} {s : Shared} {E : Value → Shared → Prop} {Q : Flow → Shared → Prop} (B : Below A₀ base outer h₀) (X : (hd.heap_39 w.params).In h₀) (T : Top view loose mean mg mb h₀) (hdp : dp + 10 < recursionLimit) (hun : un + 100 < cLine) (F : Fr h₀ L s.heap m) (N : News h₀ L s.heap rest) {b : Nat} (hb2 : 2 ≤ b) (hb16 : b ≤ 16) {r0 c0 : Nat} {t1 t2 t3 t4 : Tok} (hr0 : r0 < 2 ^ 60) (hb : m (Str.ofString "base") = some (.int b t4)) (hr : m (Str.ofString "rest") = some (.int r0 t1)) (hc : m (Str.ofString "cases") = some (.int c0 t2)) (ht : m (Str.ofString "text") = some (.str (tx []) t3))
    {keep : List (Str × Value)} (hkp : ∀ p ∈ keep, m p.1 = some p.2 ∧ p.1 ≠ Str.ofString "rest" ∧ p.1 ≠ Str.ofString "cases" ∧ p.1 ≠ Str.ofString "text" ∧ p.1 ≠ Str.ofString "digit")
    (hE : PassesOwn (model PySem.Challenge.pw_rk0008_01 w) (lnA dp un gd L outer) (lnEnv L) E)
    (h : ∀ h' tk' m' t rest', (∀ p ∈ keep, m' p.1 = some p.2) → m' (Str.ofString "text") = some (.str (tx (digT b 60 r0 c0)) t) → Fr h₀ L h' m' → News h₀ L h' rest' → Grows rest rest' → Q .next { s with heap := h', toks := tk' }) : wpAny (model PySem.Challenge.pw_rk0008_01 w) (lnA dp un gd L outer) (exec (lnSt 4) (lnEnv L)) Q E s := by
  have eL : lnDef = lnDef := rfl
  conv at eL => rhs; whnf
  have eU : lnSt 4 = lnSt 4 := rfl
  conv at eU => rhs; whnf
  rw [eU]
  unfold lnA lnEnv
  rw [eL]
  dsimp only
  refine While_inv2 (n₀ := r0) (fun n m' nw => ∃ f c cur t1 t2 t3, digT b 60 r0 c0 = digT b f n c ++ cur ∧ n < 2 ^ f ∧ cur.length + f ≤ 60 ∧ m' (Str.ofString "base") = some (.int b t4) ∧ m' (Str.ofString "rest") = some (.int n t1) ∧ m' (Str.ofString "cases") = some (.int (c : Nat) t2) ∧ m' (Str.ofString "text") = some (.str (tx cur) t3) ∧ (∀ p ∈ keep, m' p.1 = some p.2) ∧ Grows rest nw) F N ⟨60, c0, [], t1, t2, t3, by simp, hr0, by simp, hb, hr, hc, ht, fun p hp => (hkp p hp).1, .refl _⟩ ?_ (hE := hE)
  rintro n m₁ news₁ h₁ tk₁ F₁ N₁ ⟨f, c, cur, t1, t2, t3, hdig, hnf, hlen, hb1, hr1, hc1, ht1, hkp1, hg1⟩
  clear hr hc ht hb
  have hlt9 : (tx cur).length ≤ 60 := by rw [tx_len]; omega
  clear N
  obtain ⟨rest, rfl⟩ : ∃ r, r = news₁ := ⟨_, rfl⟩
  have hlt1 : ∀ p ∈ rest, @LT.lt Nat _ p.1 h₁.objs.size := fun p hp => Heap.lt_size (N₁ p hp).1
  have hd0 : 0 ≤ (n : Int).fmod (b : Int) := Int.fmod_nonneg_of_pos _ (by omega)
  have hd1 : (n : Int).fmod (b : Int) < 16 := Int.lt_of_lt_of_le (Int.fmod_lt_of_pos _ (by omega)) (by omega)
  have em : (n : Int).fmod (b : Int) = ((n % b : Nat) : Int) := by rw [Int.fmod_eq_emod_of_nonneg _ (by omega)]; rfl
  have ed : (n : Int).fdiv (b : Int) = ((n / b : Nat) : Int) := by rw [Int.fdiv_eq_ediv_of_nonneg _ (by omega)]; rfl
  have ec : (c : Int).fmod 2 = ((c % 2 : Nat) : Int) := by rw [Int.fmod_eq_emod_of_nonneg _ (by omega)]; rfl
  have ecd : (c : Int).fdiv 2 = ((c / 2 : Nat) : Int) := by rw [Int.fdiv_eq_ediv_of_nonneg _ (by omega)]; rfl
  have hmod : n % b < 16 := by have := Nat.mod_lt n (show b > 0 by omega); omega
  have step : 0 < n → ∃ f', f = f' + 1 ∧ digT b f n c = digT b f' (n / b) (c / 2) ++ [digCode (c % 2 == 1) (n % b)] ∧ n / b < 2 ^ f' ∧ n / b < n := fun hn => by
    cases f with
    | zero => simp at hnf; omega
    | succ f' =>
      refine ⟨f', rfl, by rw [digT, if_neg (by omega)], ?_, Nat.div_lt_self hn (by omega)⟩
      have h1 : n / b ≤ n / 2 := Nat.div_le_div_left hb2 (by omega)
      have h2 : 2 ^ (f' + 1) = 2 * 2 ^ f' := by rw [Nat.pow_succ]; exact Nat.mul_comm _ _
      exact Nat.lt_of_le_of_lt h1 (Nat.div_lt_of_lt_mul (h2 ▸ hnf))
  (repeat' (first | ((k_here; (with_reducible show wpAny _ _ (subscriptTail _ _ (Value.str _ _) (Value.int _ _)) _ _ _); k_dflt (refine' strIdx16 ?a ?b ?c ?_; (case a => decide +kernel); (case b => assumption); (case c => assumption); k_whole))) | (k_unfold; (try dsimp only)) | (k_end; kc_close) | walk1 | (dsimp only; walk1) | (leave1; walk_say "STEP leave1"; (try dsimp only)) | fail "no step"))
  · rename (c : Int).fmod 2 = 1 => c1
    rename 0 < (n : Int) => c2
    rename Fr _ _ _ _ => F8
    rename News _ _ _ _ => N8
    obtain ⟨f', rfl, hd2, hlt2, hdec⟩ := step (by omega)
    have hb1' : (c % 2 == 1) = true := by
      have : c % 2 = 1 := par1 (ec.symm.trans c1)
      rw [this]; rfl
    have hti : Txt.item (Str.ofString "0123456789ABCDEF") ((n : Int).fmod (b : Int)) ++ tx cur = tx (digCode (c % 2 == 1) (n % b) :: cur) := by
      rw [em, item_hi _ hmod, hb1']
      show (⟨_⟩ : Str) = ⟨_⟩
      congr 1
      simp
    refine ⟨_, _, _, _, n / b, rfl, F8, N8, hdec, f', c / 2, digCode (c % 2 == 1) (n % b) :: cur, _, _, _, ?_, hlt2, ?_, ?_, (if_neg (by decide)).trans ((if_neg (by decide)).trans ((if_neg (by decide)).trans ((if_pos rfl).trans (congrArg (fun z => some (Value.int z _)) ed)))), (if_pos rfl).trans (congrArg (fun z => some (Value.int z _)) ecd), (if_neg (by decide)).trans ((if_pos rfl).trans (congrArg (fun z => some (Value.str z _)) hti)), fun p hp => ?_, hg1.cons hlt1⟩
    · rw [hdig, hd2, List.append_assoc]; rfl
    · rw [List.length_cons, Nat.add_right_comm]; exact hlen
    · exact (if_neg (by decide)).trans ((if_neg (by decide)).trans ((if_neg (by decide)).trans ((if_neg (by decide)).trans hb1)))
    · exact (if_neg (hkp p hp).2.2.1).trans ((if_neg (hkp p hp).2.2.2.1).trans ((if_neg (hkp p hp).2.2.2.2).trans ((if_neg (hkp p hp).2.1).trans (hkp1 p hp))))
  · rename (c : Int).fmod 2 ≠ 1 => c1
    rename 0 < (n : Int) => c2
    rename Fr _ _ _ _ => F8
    rename News _ _ _ _ => N8
    obtain ⟨f', rfl, hd2, hlt2, hdec⟩ := step (by omega)
    have hb1' : (c % 2 == 1) = false := by
      have : c % 2 = 0 := par0 (fun e => c1 (ec.trans e))
      rw [this]; rfl
    have hti : Txt.item (Str.ofString "0123456789abcdef") ((n : Int).fmod (b : Int)) ++ tx cur = tx (digCode (c % 2 == 1) (n % b) :: cur) := by
      rw [em, item_lo _ hmod, hb1']
      show (⟨_⟩ : Str) = ⟨_⟩
      congr 1
      simp
    refine ⟨_, _, _, _, n / b, rfl, F8, N8, hdec, f', c / 2, digCode (c % 2 == 1) (n % b) :: cur, _, _, _, ?_, hlt2, ?_, ?_, (if_neg (by decide)).trans ((if_neg (by decide)).trans ((if_neg (by decide)).trans ((if_pos rfl).trans (congrArg (fun z => some (Value.int z _)) ed)))), (if_pos rfl).trans (congrArg (fun z => some (Value.int z _)) ecd), (if_neg (by decide)).trans ((if_pos rfl).trans (congrArg (fun z => some (Value.str z _)) hti)), fun p hp => ?_, hg1.cons hlt1⟩
    · rw [hdig, hd2, List.append_assoc]; rfl
    · rw [List.length_cons, Nat.add_right_comm]; exact hlen
    · exact (if_neg (by decide)).trans ((if_neg (by decide)).trans ((if_neg (by decide)).trans ((if_neg (by decide)).trans hb1)))
    · exact (if_neg (hkp p hp).2.2.1).trans ((if_neg (hkp p hp).2.2.2.1).trans ((if_neg (hkp p hp).2.2.2.2).trans ((if_neg (hkp p hp).2.1).trans (hkp1 p hp))))
  · rename ¬ 0 < (n : Int) => c2
    rename Fr _ _ _ _ => F8
    rename News _ _ _ _ => N8
    have hn0 : n = 0 := by omega
    subst hn0
    have e0 : digT b f 0 c = [] := by cases f <;> simp [digT]
    rw [e0, List.nil_append] at hdig
    rw [hdig] at h
    exact h _ _ _ _ _ hkp1 ht1 F8 N8 hg1
end
section
open PySem PySem.W PyProof.Rows PySem.Calls
set_option maxRecDepth 100000
set_option maxHeartbeats 400000


theorem tx_app (a b : List Nat) : tx a ++ tx b = tx (a ++ b) := by
  show (⟨_⟩ : Str) = ⟨_⟩
  congr 1
  simp
theorem mul0 : Txt.mul (Str.ofString "0") 0 = tx [] := by decide +kernel
theorem mul1 : Txt.mul (Str.ofString "0") 1 = tx [48] := by decide +kernel
theorem mul2 : Txt.mul (Str.ofString "0") 2 = tx [48, 48] := by decide +kernel
theorem mul_zeros {z : Int} (h0 : 0 ≤ z) (h1 : z < 3) (cur : List Nat) : Txt.mul (Str.ofString "0") z ++ tx cur = tx (List.replicate z.toNat 48 ++ cur) := by
  have hz : z = 0 ∨ z = 1 ∨ z = 2 := by omega
  rcases hz with rfl | rfl | rfl
  · rw [mul0, tx_app]; rfl
  · rw [mul1, tx_app]; rfl
  · rw [mul2, tx_app]; rfl

theorem ln_s5 {w : World} {mean : ExcName → Option Value} {mg mb : Str → Option Value} {rest : List (Addr × Obj)} {dp un : Nat} {gd : Option (List Code)} {L : Addr} {outer : List Env} {A₀ : Around} {base h₀ : Heap} {m : Str → Option Value} {s : Shared} {E : Value → Shared → Prop} {Q : Flow → Shared → Prop} (B : Below A₀ base outer h₀) (X : (hd.heap_39 w.params).In h₀) (T : Top view loose mean mg mb h₀) (hdp : dp + 10 < recursionLimit) (hun : un + 100 < cLine) (F : Fr h₀ L s.heap m) (N : News h₀ L s.heap rest) {k : Nat} {a : Int} {cur : List Nat} {t1 t2 t3 : Tok} (hcl : cur.length ≤ 100) (hk : m (Str.ofString "form") = some (.int k t1)) (ha : m (Str.ofString "a") = some (.int a t2)) (ht : m (Str.ofString "text") = some (.str (tx cur) t3))
    (h : ∀ h' tk' m' t, (∀ y, y ≠ Str.ofString "text" → m' y = m y) → m' (Str.ofString "text") = some (.str (tx (List.replicate (if k = 0 then 0 else ((a.fdiv 6).fmod 3).toNat) 48 ++ cur)) t) → Fr h₀ L h' m' → News h₀ L h' rest → Q .next { s with heap := h', toks := tk' }) : wpAny (model PySem.Challenge.pw_rk0008_01 w) (lnA dp un gd L outer) (exec (lnSt 5) (lnEnv L)) Q E s := by
  have eL : lnDef = lnDef := rfl
  conv at eL => rhs; whnf
  have eU : lnSt 5 = lnSt 5 := rfl
  conv at eU => rhs; whnf
  rw [eU]
  unfold lnA lnEnv
  rw [eL]
  dsimp only
  have hlt9 : (tx cur).length ≤ 100 := by rw [tx_len]; exact hcl
  have hz0 : 0 ≤ (a.fdiv 6).fmod 3 := Int.fmod_nonneg_of_pos _ (by omega)
  have hz1 : (a.fdiv 6).fmod 3 < 3 := Int.fmod_lt_of_pos _ (by omega)
  walk1
  k_steps
  · rename 0 < (k : Int) => c1
    rename Fr _ _ _ _ => F8
    rename News _ _ _ _ => N8
    have hk0 : ¬ k = 0 := by omega
    rw [if_neg hk0] at h
    refine h _ _ _ _ (fun y hy => if_neg hy) ((if_pos rfl).trans (congrArg (fun z => some (Value.str z _)) (mul_zeros hz0 hz1 cur))) F8 N8
  · rename ¬ 0 < (k : Int) => c1
    rename Fr _ _ _ _ => F8
    rename News _ _ _ _ => N8
    have hk0 : k = 0 := by omega
    rw [if_pos hk0] at h
    exact h _ _ _ _ (fun _ _ => rfl) ht F8 N8
theorem ln_s6 {w : World} {mean : ExcName → Option Value} {mg mb : Str → Option Value} {rest : List (Addr × Obj)} {dp un : Nat} {gd : Option (List Code)} {L : Addr} {outer : List Env} {A₀ : Around} {base h₀ : Heap} {m : Str → Option Value} {s : Shared} {E : Value → Shared → Prop} {Q : Flow → Shared → Prop} (B : Below A₀ base outer h₀) (X : (hd.heap_39 w.params).In h₀) (T : Top view loose mean mg mb h₀) (hdp : dp + 10 < recursionLimit) (hun : un + 100 < cLine) (F : Fr h₀ L s.heap m) (N : News h₀ L s.heap rest) {k : Nat} (hk6 : k < 6) {cur : List Nat} {t1 t3 : Tok} (hcl : cur.length ≤ 110) (hk : m (Str.ofString "form") = some (.int k t1)) (ht : m (Str.ofString "text") = some (.str (tx cur) t3))
    (h : ∀ h' tk' t D o, Fr h₀ L h' (setN (Str.ofString "text") (.str (tx (markOf k ++ if cur = [] then [48] else cur)) t) m) → News h₀ L h' ((D, o) :: rest) → (∀ p ∈ rest, p.1 < D) → Q .next { s with heap := h', toks := tk' }) : wpAny (model PySem.Challenge.pw_rk0008_01 w) (lnA dp un gd L outer) (exec (lnSt 6) (lnEnv L)) Q E s := by
  have eL : lnDef = lnDef := rfl
  conv at eL => rhs; whnf
  have eU : lnSt 6 = lnSt 6 := rfl
  conv at eU => rhs; whnf
  rw [eU]
  unfold lnA lnEnv
  rw [eL]
  dsimp only
  have hlt9 : (tx cur).length ≤ 110 := by rw [tx_len]; exact hcl
  have hks : k = 0 ∨ k = 1 ∨ k = 2 ∨ k = 3 ∨ k = 4 ∨ k = 5 := six hk6
  rcases hks with rfl | rfl | rfl | rfl | rfl | rfl
  · walk1
    (repeat' (first | ((k_here; (with_reducible show wpAny _ _ (subscriptTail _ _ (Value.ref _) (Value.int _ _)) _ _ _); k_dflt (refine' itemL ?N ?m ?a ?b ?x ?_; (case N => k_asm); (case m => k_mem); (case a => decide); (case b => decide); (case x => (simp only [List.map_cons, List.getElem?_toArray, Int.toNat_zero, List.getElem?_cons_zero]; exact rfl)); k_whole))) | (k_unfold; (try dsimp only)) | (k_end; kc_close) | walk1 | (dsimp only; walk1) | (leave1; walk_say "STEP leave1"; (try dsimp only)) | fail "no step"))
    · rename ((tx cur).length : Int) ≠ 0 => c1
      rename Fr _ _ _ _ => F8
      rename News _ _ _ _ => N8
      have hne : cur ≠ [] := fun e => by rw [e] at c1; exact c1 rfl
      rw [if_neg hne, show Value.str (tx (markOf 0 ++ cur)) = Value.str (Str.ofString "" ++ tx cur) from congrArg _ ((tx_app _ _).symm.trans (congrArg (· ++ tx cur) (show tx (markOf 0) = Str.ofString "" by decide +kernel)))] at h
      exact h _ _ _ _ _ F8 N8 (by assumption)
    · rename ((tx cur).length : Int) = 0 => c1
      rename Fr _ _ _ _ => F8
      rename News _ _ _ _ => N8
      have hne : cur = [] := List.eq_nil_of_length_eq_zero (by rw [tx_len] at c1; omega)
      rw [if_pos hne, show Value.str (tx (markOf 0 ++ [48])) = Value.str (Str.ofString "0") from congrArg _ (by decide +kernel)] at h
      exact h _ _ _ _ _ F8 N8 (by assumption)
  · walk1
    (repeat' (first | ((k_here; (with_reducible show wpAny _ _ (subscriptTail _ _ (Value.ref _) (Value.int _ _)) _ _ _); k_dflt (refine' itemL ?N ?m ?a ?b ?x ?_; (case N => k_asm); (case m => k_mem); (case a => decide); (case b => decide); (case x => (simp only [List.map_cons, List.getElem?_toArray, Int.toNat_zero, List.getElem?_cons_zero]; exact rfl)); k_whole))) | (k_unfold; (try dsimp only)) | (k_end; kc_close) | walk1 | (dsimp only; walk1) | (leave1; walk_say "STEP leave1"; (try dsimp only)) | fail "no step"))
    · rename ((tx cur).length : Int) ≠ 0 => c1
      rename Fr _ _ _ _ => F8
      rename News _ _ _ _ => N8
      have hne : cur ≠ [] := fun e => by rw [e] at c1; exact c1 rfl
      rw [if_neg hne, show Value.str (tx (markOf 1 ++ cur)) = Value.str (Str.ofString "0" ++ tx cur) from congrArg _ ((tx_app _ _).symm.trans (congrArg (· ++ tx cur) (show tx (markOf 1) = Str.ofString "0" by decide +kernel)))] at h
      exact h _ _ _ _ _ F8 N8 (by assumption)
    · rename ((tx cur).length : Int) = 0 => c1
      rename Fr _ _ _ _ => F8
      rename News _ _ _ _ => N8
      have hne : cur = [] := List.eq_nil_of_length_eq_zero (by rw [tx_len] at c1; omega)
      rw [if_pos hne, show Value.str (tx (markOf 1 ++ [48])) = Value.str (Str.ofString "00") from congrArg _ (by decide +kernel)] at h
      exact h _ _ _ _ _ F8 N8 (by assumption)
  · walk1
    (repeat' (first | ((k_here; (with_reducible show wpAny _ _ (subscriptTail _ _ (Value.ref _) (Value.int _ _)) _ _ _); k_dflt (refine' itemL ?N ?m ?a ?b ?x ?_; (case N => k_asm); (case m => k_mem); (case a => decide); (case b => decide); (case x => (simp only [List.map_cons, List.getElem?_toArray, Int.toNat_zero, List.getElem?_cons_zero]; exact rfl)); k_whole))) | (k_unfold; (try dsimp only)) | (k_end; kc_close) | walk1 | (dsimp only; walk1) | (leave1; walk_say "STEP leave1"; (try dsimp only)) | fail "no step"))
    · rename ((tx cur).length : Int) ≠ 0 => c1
      rename Fr _ _ _ _ => F8
      rename News _ _ _ _ => N8
      have hne : cur ≠ [] := fun e => by rw [e] at c1; exact c1 rfl
      rw [if_neg hne, show Value.str (tx (markOf 2 ++ cur)) = Value.str (Str.ofString "0x" ++ tx cur) from congrArg _ ((tx_app _ _).symm.trans (congrArg (· ++ tx cur) (show tx (markOf 2) = Str.ofString "0x" by decide +kernel)))] at h
      exact h _ _ _ _ _ F8 N8 (by assumption)
    · rename ((tx cur).length : Int) = 0 => c1
      rename Fr _ _ _ _ => F8
      rename News _ _ _ _ => N8
      have hne : cur = [] := List.eq_nil_of_length_eq_zero (by rw [tx_len] at c1; omega)
      rw [if_pos hne, show Value.str (tx (markOf 2 ++ [48])) = Value.str (Str.ofString "0x0") from congrArg _ (by decide +kernel)] at h
      exact h _ _ _ _ _ F8 N8 (by assumption)
  · walk1
    (repeat' (first | ((k_here; (with_reducible show wpAny _ _ (subscriptTail _ _ (Value.ref _) (Value.int _ _)) _ _ _); k_dflt (refine' itemL ?N ?m ?a ?b ?x ?_; (case N => k_asm); (case m => k_mem); (case a => decide); (case b => decide); (case x => (simp only [List.map_cons, List.getElem?_toArray, Int.toNat_zero, List.getElem?_cons_zero]; exact rfl)); k_whole))) | (k_unfold; (try dsimp only)) | (k_end; kc_close) | walk1 | (dsimp only; walk1) | (leave1; walk_say "STEP leave1"; (try dsimp only)) | fail "no step"))
    · rename ((tx cur).length : Int) ≠ 0 => c1
      rename Fr _ _ _ _ => F8
      rename News _ _ _ _ => N8
      have hne : cur ≠ [] := fun e => by rw [e] at c1; exact c1 rfl
      rw [if_neg hne, show Value.str (tx (markOf 3 ++ cur)) = Value.str (Str.ofString "0X" ++ tx cur) from congrArg _ ((tx_app _ _).symm.trans (congrArg (· ++ tx cur) (show tx (markOf 3) = Str.ofString "0X" by decide +kernel)))] at h
      exact h _ _ _ _ _ F8 N8 (by assumption)
    · rename ((tx cur).length : Int) = 0 => c1
      rename Fr _ _ _ _ => F8
      rename News _ _ _ _ => N8
      have hne : cur = [] := List.eq_nil_of_length_eq_zero (by rw [tx_len] at c1; omega)
      rw [if_pos hne, show Value.str (tx (markOf 3 ++ [48])) = Value.str (Str.ofString "0X0") from congrArg _ (by decide +kernel)] at h
      exact h _ _ _ _ _ F8 N8 (by assumption)
  · walk1
    (repeat' (first | ((k_here; (with_reducible show wpAny _ _ (subscriptTail _ _ (Value.ref _) (Value.int _ _)) _ _ _); k_dflt (refine' itemL ?N ?m ?a ?b ?x ?_; (case N => k_asm); (case m => k_mem); (case a => decide); (case b => decide); (case x => (simp only [List.map_cons, List.getElem?_toArray, Int.toNat_zero, List.getElem?_cons_zero]; exact rfl)); k_whole))) | (k_unfold; (try dsimp only)) | (k_end; kc_close) | walk1 | (dsimp only; walk1) | (leave1; walk_say "STEP leave1"; (try dsimp only)) | fail "no step"))
    · rename ((tx cur).length : Int) ≠ 0 => c1
      rename Fr _ _ _ _ => F8
      rename News _ _ _ _ => N8
      have hne : cur ≠ [] := fun e => by rw [e] at c1; exact c1 rfl
      rw [if_neg hne, show Value.str (tx (markOf 4 ++ cur)) = Value.str (Str.ofString "0b" ++ tx cur) from congrArg _ ((tx_app _ _).symm.trans (congrArg (· ++ tx cur) (show tx (markOf 4) = Str.ofString "0b" by decide +kernel)))] at h
      exact h _ _ _ _ _ F8 N8 (by assumption)
    · rename ((tx cur).length : Int) = 0 => c1
      rename Fr _ _ _ _ => F8
      rename News _ _ _ _ => N8
      have hne : cur = [] := List.eq_nil_of_length_eq_zero (by rw [tx_len] at c1; omega)
      rw [if_pos hne, show Value.str (tx (markOf 4 ++ [48])) = Value.str (Str.ofString "0b0") from congrArg _ (by decide +kernel)] at h
      exact h _ _ _ _ _ F8 N8 (by assumption)
  · walk1
    (repeat' (first | ((k_here; (with_reducible show wpAny _ _ (subscriptTail _ _ (Value.ref _) (Value.int _ _)) _ _ _); k_dflt (refine' itemL ?N ?m ?a ?b ?x ?_; (case N => k_asm); (case m => k_mem); (case a => decide); (case b => decide); (case x => (simp only [List.map_cons, List.getElem?_toArray, Int.toNat_zero, List.getElem?_cons_zero]; exact rfl)); k_whole))) | (k_unfold; (try dsimp only)) | (k_end; kc_close) | walk1 | (dsimp only; walk1) | (leave1; walk_say "STEP leave1"; (try dsimp only)) | fail "no step"))
    · rename ((tx cur).length : Int) ≠ 0 => c1
      rename Fr _ _ _ _ => F8
      rename News _ _ _ _ => N8
      have hne : cur ≠ [] := fun e => by rw [e] at c1; exact c1 rfl
      rw [if_neg hne, show Value.str (tx (markOf 5 ++ cur)) = Value.str (Str.ofString "0B" ++ tx cur) from congrArg _ ((tx_app _ _).symm.trans (congrArg (· ++ tx cur) (show tx (markOf 5) = Str.ofString "0B" by decide +kernel)))] at h
      exact h _ _ _ _ _ F8 N8 (by assumption)
    · rename ((tx cur).length : Int) = 0 => c1
      rename Fr _ _ _ _ => F8
      rename News _ _ _ _ => N8
      have hne : cur = [] := List.eq_nil_of_length_eq_zero (by rw [tx_len] at c1; omega)
      rw [if_pos hne, show Value.str (tx (markOf 5 ++ [48])) = Value.str (Str.ofString "0B0") from congrArg _ (by decide +kernel)] at h
      exact h _ _ _ _ _ F8 N8 (by assumption)
theorem ln_s7 {w : World} {mean : ExcName → Option Value} {mg mb : Str → Option Value} {rest : List (Addr × Obj)} {dp un : Nat} {gd : Option (List Code)} {L : Addr} {outer : List Env} {A₀ : Around} {base h₀ : Heap} {m : Str → Option Value} {s : Shared} {E : Value → Shared → Prop} {Q : Flow → Shared → Prop} (B : Below A₀ base outer h₀) (X : (hd.heap_39 w.params).In h₀) (T : Top view loose mean mg mb h₀) (hdp : dp + 10 < recursionLimit) (hun : un + 100 < cLine) (F : Fr h₀ L s.heap m) (N : News h₀ L s.heap rest)
    (h : ∀ h' tk' D, Fr h₀ L h' (setN (Str.ofString "words") (.ref D) m) → News h₀ L h' ((D, PySem.W.listOf ([] : List Value).toArray 0) :: rest) → (∀ p ∈ rest, p.1 < D) → Q .next { s with heap := h', toks := tk' }) : wpAny (model PySem.Challenge.pw_rk0008_01 w) (lnA dp un gd L outer) (exec (lnSt 7) (lnEnv L)) Q E s := by
  have eL : lnDef = lnDef := rfl
  conv at eL => rhs; whnf
  have eU : lnSt 7 = lnSt 7 := rfl
  conv at eU => rhs; whnf
  rw [eU]
  unfold lnA lnEnv
  rw [eL]
  dsimp only
  walk1
  k_steps
  rename Fr _ _ _ _ => F8
  rename News _ _ _ _ => N8
  exact h _ _ _ F8 N8 (by assumption)
end
section
open PySem PySem.W PyProof.Rows PySem.Calls
set_option maxRecDepth 100000
set_option maxHeartbeats 400000


theorem addL {prog : Program} {w : World} {A : Around} {E : Value → Shared → Prop} {s : Shared} {h₀ : Heap} {L l b : Addr} {m : Str → Option Value} {news : List (Addr × Obj)} {vs ws : List Value} {n n2 : Nat} {Q : Value → Shared → Prop} (F : Fr h₀ L s.heap m) (N : News h₀ L s.heap news) (ha : (l, PySem.W.listOf vs.toArray n) ∈ news) (hb : (b, PySem.W.listOf ws.toArray n2) ∈ news) (hsz : vs.length + ws.length ≤ 1000)
    (h : ∀ h' D, Fr h₀ L h' m → News h₀ L h' ((D, PySem.W.listOf (vs ++ ws).toArray 0) :: news) → (∀ p ∈ news, p.1 < D) → Q (.ref D) { s with heap := h' }) : wpAny (model prog w) A (binaryOp .Add (.ref l) (.ref b)) Q E s :=
  add_lists F N ⟨_, (N _ ha).1, rfl, n, rfl⟩ ⟨_, (N _ hb).1, rfl, n2, rfl⟩ (fun h' F' N' => h h' _ F' N' fun p hp => Heap.lt_size (N p hp).1) (Nat.le_trans hsz (by decide))
theorem grow2 {r : List (Addr × Obj)} {d1 d2 : Addr} {o1 o2 : Obj} (h1 : ∀ p ∈ r, p.1 < d1) (h2 : @LT.lt Nat _ d1 d2) : Grows r ((d2, o2) :: (d1, o1) :: r) :=
  ((Grows.refl r).cons h1).cons fun p hp => by
    rcases List.mem_cons.mp hp with rfl | hp
    · exact h2
    · exact Nat.lt_trans (h1 p hp) h2
noncomputable def sufCode (r : Nat) : Nat := if r = 0 then 76 else if r = 1 then 108 else if r = 2 then 85 else 117
noncomputable def wordL (r : Nat) : Str := if r < 2 then Str.ofString "long" else Str.ofString "unsigned"
theorem item_suf : ∀ r : Nat, r < 4 → Txt.item (Str.ofString "LlUu") (r : Int) = tx [sufCode r] := by decide +kernel
theorem occ_suf : ∀ r : Nat, r < 4 → (PySem.Builtin.Str.occurrences (Str.ofString "Ll") (tx [sufCode r]) 0 (Str.ofString "Ll").length 1).isEmpty = decide (2 ≤ r) := by decide +kernel
noncomputable def lnIter : PySem.Expr := match lnSt 8 with | .For _ i _ _ _ => i | _ => .Constant .none 0 default
noncomputable def lnBody : List Stmt := match lnSt 8 with | .For _ _ b _ _ => b | _ => []

theorem ln_iter {w : World} {mean : ExcName → Option Value} {mg mb : Str → Option Value} {rest : List (Addr × Obj)} {dp un : Nat} {gd : Option (List Code)} {L : Addr} {outer : List Env} {A₀ : Around} {base h₀ : Heap} {m : Str → Option Value} {s : Shared} {E : Value → Shared → Prop} {Q : Value → Shared → Prop} (B : Below A₀ base outer h₀) (X : (hd.heap_39 w.params).In h₀) (T : Top view loose mean mg mb h₀) (hdp : dp + 10 < recursionLimit) (hun : un + 100 < cLine) (F : Fr h₀ L s.heap m) (N : News h₀ L s.heap rest) {a : Int} {t2 : Tok} (ha : m (Str.ofString "a") = some (.int a t2))
    (h : ∀ h' tk' r t u v, IsRange h' r 0 ((a.fdiv 18).fmod 4) 1 t u v → Fr h₀ L h' m → News h₀ L h' rest → Q (.ref r) { s with heap := h', toks := tk' }) : wpAny (model PySem.Challenge.pw_rk0008_01 w) (lnA dp un gd L outer) (eval lnIter (lnEnv L)) Q E s := by
  have eL : lnDef = lnDef := rfl
  conv at eL => rhs; whnf
  have eU : lnIter = lnIter := rfl
  conv at eU => rhs; whnf
  rw [eU]
  unfold lnA lnEnv
  rw [eL]
  dsimp only
  walk1
  k_steps
  rename IsRange _ _ _ _ _ _ _ _ => R8
  rename Fr _ _ _ _ => F8
  rename News _ _ _ _ => N8
  exact h _ _ _ _ _ _ R8 F8 N8
theorem ln_body {w : World} {mean : ExcName → Option Value} {mg mb : Str → Option Value} {rest : List (Addr × Obj)} {dp un : Nat} {gd : Option (List Code)} {L : Addr} {outer : List Env} {A₀ : Around} {base h₀ : Heap} {m : Str → Option Value} {s : Shared} {E : Value → Shared → Prop} {Q : Flow → Shared → Prop} (B : Below A₀ base outer h₀) (X : (hd.heap_39 w.params).In h₀) (T : Top view loose mean mg mb h₀) (hdp : dp + 10 < recursionLimit) (hun : un + 100 < cLine) (F : Fr h₀ L s.heap m) {W : Addr} {vs : List Value} {nW : Nat} (N : News h₀ L s.heap rest) (hW : (W, PySem.W.listOf vs.toArray nW) ∈ rest) (hvl : vs.length ≤ 10) {i : Nat} (hi : i < 3) {c : Nat} {cur : List Nat} {t1 t2 t3 : Tok} (hcl : cur.length ≤ 130) (hk : m (Str.ofString "k") = some (.int i t1)) (hc : m (Str.ofString "c") = some (.int c t2)) (ht : m (Str.ofString "text") = some (.str (tx cur) t3)) (hw : m (Str.ofString "words") = some (.ref W))
    (h : ∀ h' tk' m' t W' tw rest', (∀ y, y ≠ Str.ofString "sign" → y ≠ Str.ofString "text" → y ≠ Str.ofString "words" → m' y = m y) → m' (Str.ofString "text") = some (.str (tx (cur ++ [sufCode (c / 4 ^ i % 4)])) t) → m' (Str.ofString "words") = some (.ref W') → Fr h₀ L h' m' → News h₀ L h' rest' → (W', PySem.W.listOf (Value.str (wordL (c / 4 ^ i % 4)) tw :: vs).toArray 0) ∈ rest' → Grows rest rest' → (∀ q ∈ rest, @LT.lt Nat _ q.1 W') → Q .next { s with heap := h', toks := tk' }) : wpAny (model PySem.Challenge.pw_rk0008_01 w) (lnA dp un gd L outer) (execs lnBody (lnEnv L)) Q E s := by
  have eL : lnDef = lnDef := rfl
  conv at eL => rhs; whnf
  have eU : lnBody = lnBody := rfl
  conv at eU => rhs; whnf
  rw [eU]
  unfold lnA lnEnv
  rw [eL]
  dsimp only
  have hlt9 : (tx cur).length ≤ 130 := by rw [tx_len]; exact hcl
  have hr4 : c / 4 ^ i % 4 < 4 := Nat.mod_lt _ (by decide)
  have hE : ((c : Int).fdiv (4 ^ ((i : Nat) : Int).toNat)).fmod 4 = ((c / 4 ^ i % 4 : Nat) : Int) := by
    rw [Int.toNat_natCast, Int.fdiv_eq_ediv_of_nonneg _ (Int.le_of_lt (Int.pow_pos (by decide))), Int.fmod_eq_emod_of_nonneg _ (by decide)]
    norm_cast
  obtain ⟨r, hr⟩ : ∃ r, r = c / 4 ^ i % 4 := ⟨_, rfl⟩
  rw [← hr] at h hr4 hE
  have hI : Txt.item (Str.ofString "LlUu") (((c : Int).fdiv (4 ^ ((i : Nat) : Int).toNat)).fmod 4) = tx [sufCode r] := by rw [hE]; exact item_suf _ hr4
  have hO := occ_suf _ hr4
  have hks : i = 0 ∨ i = 1 ∨ i = 2 := by omega
  rcases hks with rfl | rfl | rfl
  all_goals (walk1; (repeat' (first | ((k_here; (with_reducible show wpAny _ _ (binaryOp _ (Value.ref _) (Value.ref _)) _ _ _); k_dflt (refine' addL ?F ?N ?a ?b ?z ?_; (case F => k_asm); (case N => k_asm); (case a => exact .head _); (case b => exact .tail _ (by assumption)); (case z => (simp only [List.length_cons, List.length_nil]; omega)); k_whole); intro h' D' F' N' l1; (try k_lt l1))) | (k_unfold; (try dsimp only)) | (k_end; kc_close) | walk1 | (dsimp only; walk1) | (leave1; walk_say "STEP leave1"; (try dsimp only)) | fail "no step")))
  all_goals (
    rename (Builtin.Str.occurrences _ _ _ _ _).isEmpty = _ => c1
    rename Fr _ _ _ _ => F8
    rename News _ _ _ _ => N8
    rename _ ∧ AllLt _ rest => l2
    rw [hI, hO] at c1)
  all_goals first
    | (have hw9 : wordL r = Str.ofString "unsigned" := if_neg (Nat.not_lt.mpr (of_decide_eq_true c1))
       exact h _ _ _ _ _ _ _ (fun y h1 h2 h3 => (if_neg h3).trans ((if_neg h2).trans (if_neg h1))) ((if_neg (by decide)).trans ((if_pos rfl).trans (congrArg (fun z => some (Value.str z _)) (by rw [hI, tx_app])))) (if_pos rfl) F8 N8 (by rw [hw9]; exact .head _) (grow2 hRest9 l2.1) (fun q hq => Nat.lt_trans (hRest9 q hq) l2.1))
    | (have hw9 : wordL r = Str.ofString "long" := if_pos (Nat.lt_of_not_le (of_decide_eq_false c1))
       exact h _ _ _ _ _ _ _ (fun y h1 h2 h3 => (if_neg h3).trans ((if_neg h2).trans (if_neg h1))) ((if_neg (by decide)).trans ((if_pos rfl).trans (congrArg (fun z => some (Value.str z _)) (by rw [hI, tx_app])))) (if_pos rfl) F8 N8 (by rw [hw9]; exact .head _) (grow2 hRest9 l2.1) (fun q hq => Nat.lt_trans (hRest9 q hq) l2.1))
end
section
open PySem PySem.W PyProof.Rows PySem.Calls
set_option maxRecDepth 100000
set_option maxHeartbeats 400000


/-- word values and their texts -/
inductive WV : List Value → List Str → Prop
  | nil : WV [] []
  | cons {vs : List Value} {ws : List Str} {x : Str} {t : Tok} : WV vs ws → WV (.str x t :: vs) (x :: ws)
theorem WV.length {vs : List Value} {ws : List Str} (h : WV vs ws) : vs.length = ws.length := by
  induction h with
  | nil => rfl
  | cons _ ih => simp [ih]
noncomputable def sufs (c : Nat) : Nat → List Nat
  | 0 => []
  | i + 1 => sufs c i ++ [sufCode (c / 4 ^ i % 4)]
noncomputable def sufW (c : Nat) : Nat → List Str
  | 0 => []
  | i + 1 => wordL (c / 4 ^ i % 4) :: sufW c i
theorem sufs_len (c : Nat) : ∀ i, (sufs c i).length = i
  | 0 => rfl
  | i + 1 => by simp [sufs, sufs_len c i]
theorem sufW_len (c : Nat) : ∀ i, (sufW c i).length = i
  | 0 => rfl
  | i + 1 => by simp [sufW, sufW_len c i]
theorem range_small {z : Int} (h0 : 0 ≤ z) (h1 : z < 4) : PySem.Builtin.Range.small 0 z 1 = true ∧ PySem.Builtin.Range.rangeSize 0 z 1 = ((z.toNat : Nat) : Int) := by
  have hz : z = 0 ∨ z = 1 ∨ z = 2 ∨ z = 3 := by omega
  rcases hz with rfl | rfl | rfl | rfl <;> exact ⟨by decide +kernel, by decide +kernel⟩
theorem ln_s8 {w : World} {mean : ExcName → Option Value} {mg mb : Str → Option Value} {rest : List (Addr × Obj)} {dp un : Nat} {gd : Option (List Code)} {L : Addr} {outer : List Env} {A₀ : Around} {base h₀ : Heap} {m : Str → Option Value} {s : Shared} {E : Value → Shared → Prop} {Q : Flow → Shared → Prop} (B : Below A₀ base outer h₀) (X : (hd.heap_39 w.params).In h₀) (T : Top view loose mean mg mb h₀) (hdp : dp + 10 < recursionLimit) (hun : un + 100 < cLine) (F : Fr h₀ L s.heap m) {W : Addr} {nW : Nat} (N : News h₀ L s.heap rest) (hW : (W, PySem.W.listOf ([] : List Value).toArray nW) ∈ rest) {a : Int} {c : Nat} {cur : List Nat} {t1 t2 t3 : Tok} (hcl : cur.length ≤ 120) (ha : m (Str.ofString "a") = some (.int a t1)) (hc : m (Str.ofString "c") = some (.int c t2)) (ht : m (Str.ofString "text") = some (.str (tx cur) t3)) (hw : m (Str.ofString "words") = some (.ref W))
    {wo : Value} (hwo : m (Str.ofString "worth") = some wo)
    (h : ∀ h' tk' m' t W' n' vs rest', m' (Str.ofString "text") = some (.str (tx (cur ++ sufs c ((a.fdiv 18).fmod 4).toNat)) t) → m' (Str.ofString "words") = some (.ref W') → m' (Str.ofString "worth") = some wo → WV vs (sufW c ((a.fdiv 18).fmod 4).toNat) → (W', PySem.W.listOf vs.toArray n') ∈ rest' → Fr h₀ L h' m' → News h₀ L h' rest' → Grows rest rest' → Q .next { s with heap := h', toks := tk' }) : wpAny (model PySem.Challenge.pw_rk0008_01 w) (lnA dp un gd L outer) (exec (lnSt 8) (lnEnv L)) Q E s := by
  have hz0 : 0 ≤ (a.fdiv 18).fmod 4 := Int.fmod_nonneg_of_pos _ (by omega)
  have hz1 : (a.fdiv 18).fmod 4 < 4 := Int.fmod_lt_of_pos _ (by omega)
  obtain ⟨hsm, hsz⟩ := range_small hz0 hz1
  change wpAny (model PySem.Challenge.pw_rk0008_01 w) (lnA dp un gd L outer) (exec (.For (.Name (Str.ofString "k") _) lnIter lnBody [] _) (lnEnv L)) Q E s
  refine wpAny_For (ln_iter B X T hdp hun F N ha fun h1 tk1 r t u v hr F1 N1 => ?_)
  refine for_range rfl F1 N1 hr hsm hsz (fun i m' nw => ∃ W' n' vs t, m' (Str.ofString "text") = some (.str (tx (cur ++ sufs c i)) t) ∧ m' (Str.ofString "words") = some (.ref W') ∧ m' (Str.ofString "worth") = some wo ∧ m' (Str.ofString "c") = some (.int c t2) ∧ WV vs (sufW c i) ∧ (W', PySem.W.listOf vs.toArray n') ∈ nw ∧ Grows rest nw)
    ⟨W, nW, [], t3, by simpa [sufs] using ht, hw, hwo, hc, .nil, hW, .refl _⟩ ?_ ?_
  · rintro I i v m₁ nw h2 tk2 oI E' hI hi ⟨tv, rfl⟩ ⟨W', n', vs, t', ht', hw', hwo', hc', hwv, hWm, hgr⟩ F2 N2 hoff _
    have hi3 : i < 3 := by omega
    have e0 : (0 : Int) + (i : Int) * 1 = ((i : Nat) : Int) := by omega
    rw [e0]
    refine wpAny_assign_Name (wpAny_storeName_local (by rfl) F2.ns (fun h3 hn3 hs3 => ?_) (by rfl))
    have hL₀ : h₀.get? L = none := Heap.get?_none_of_le F2.above
    have F3 : Fr h₀ L h3 (setN (Str.ofString "k") (.int ((i : Nat) : Int) tv) m₁) := ⟨hn3, fun b o e => hs3.extBut b o (fun q => by rw [q, hL₀] at e; cases e) (F2.keep b o e), F2.above⟩
    have N3 : News h₀ L h3 ((I, oI) :: nw) := fun p hp => ⟨hs3.extBut _ _ (N2 p hp).2.1 (N2 p hp).1, (N2 p hp).2⟩
    refine ln_body B X T hdp hun F3 N3 (.tail _ hWm) (by rw [hwv.length, sufW_len]; omega) hi3 (cur := cur ++ sufs c i) (by simp [sufs_len]; omega) (if_pos rfl) ((if_neg (by decide)).trans hc') ((if_neg (by decide)).trans ht') ((if_neg (by decide)).trans hw') fun h4 tk4 m4 t4 W4 tw rest4 hkeep ht4 hw4 F4 N4 hW4 hgr4 hfr4 => ?_
    obtain ⟨g, rfl, hg⟩ := hgr4
    refine ⟨rfl, h4, tk4, m4, g ++ nw, rfl, F4, fun p hp => N4 p ?_, fun p hp => ?_, trivial, W4, 0, _, t4, ?_, hw4, ?_, ?_, .cons (t := tw) hwv, ?_, hgr.trans ⟨g, rfl, fun p hp q hq => hg p hp q (.tail _ hq)⟩⟩
    · simp only [List.mem_cons, List.mem_append] at hp ⊢
      rcases hp with hp | hp | hp
      · exact .inr (.inl hp)
      · exact .inl hp
      · exact .inr (.inr hp)
    · rcases List.mem_append.mp hp with hp | hp
      · exact (Nat.ne_of_lt (hg p hp (I, oI) (.head _))).symm
      · exact hoff p hp
    · rw [ht4, List.append_assoc]; rfl
    · exact (hkeep _ (by decide) (by decide) (by decide)).trans ((if_neg (by decide)).trans hwo')
    · exact (hkeep _ (by decide) (by decide) (by decide)).trans ((if_neg (by decide)).trans hc')
    · rcases List.mem_append.mp hW4 with hp | hp
      · exact List.mem_append_left _ hp
      · rcases List.mem_cons.mp hp with e | hp
        · have e1 : W4 = I := congrArg Prod.fst e
          exact absurd (hfr4 (I, oI) (.head _)) (by rw [e1]; exact Nat.lt_irrefl _)
        · exact List.mem_append_right _ hp
  · rintro m₁ nw h2 tk2 ⟨W', n', vs, t', ht', hw', hwo', hc', hwv, hWm, hgr⟩ F2 N2
    exact h _ _ _ _ _ _ _ _ ht' hw' hwo' hwv hWm F2 N2 hgr
end
section
open PySem PySem.W PyProof.Rows PySem.Calls
set_option maxRecDepth 100000
set_option maxHeartbeats 400000


theorem lt_two {r : List (Addr × Obj)} {d1 d2 : Addr} {o1 : Obj} (h1 : ∀ p ∈ r, p.1 < d1) (h2 : @LT.lt Nat _ d1 d2) : ∀ p ∈ (d1, o1) :: r, @LT.lt Nat _ p.1 d2 := fun p hp => by
  rcases List.mem_cons.mp hp with rfl | hp
  · exact h2
  · exact Nat.lt_trans (h1 p hp) h2
theorem lt_three {r : List (Addr × Obj)} {d1 d2 d3 : Addr} {o1 o2 : Obj} (h1 : ∀ p ∈ r, p.1 < d1) (h2 : @LT.lt Nat _ d1 d2) (h3 : @LT.lt Nat _ d2 d3) : ∀ p ∈ (d2, o2) :: (d1, o1) :: r, @LT.lt Nat _ p.1 d3 := lt_two (lt_two h1 h2) h3

theorem ln_s9 {w : World} {mean : ExcName → Option Value} {mg mb : Str → Option Value} {rest : List (Addr × Obj)} {dp un : Nat} {gd : Option (List Code)} {L : Addr} {outer : List Env} {A₀ : Around} {base h₀ : Heap} {m : Str → Option Value} {s : Shared} {E : Value → Shared → Prop} {Q : Flow → Shared → Prop} (B : Below A₀ base outer h₀) (X : (hd.heap_39 w.params).In h₀) (T : Top view loose mean mg mb h₀) (hdp : dp + 10 < recursionLimit) (hun : un + 100 < cLine) (F : Fr h₀ L s.heap m) {W : Addr} {nW : Nat} {vs : List Value} {ws : List Str} (hwv : WV vs ws) (hvl : vs.length ≤ 10) (N : News h₀ L s.heap rest) (hW : (W, PySem.W.listOf vs.toArray nW) ∈ rest) {x : Str} {wo : Int} {t1 t2 : Tok} (ht : m (Str.ofString "text") = some (.str x t1)) (hwo : m (Str.ofString "worth") = some (.int wo t2)) (hw : m (Str.ofString "words") = some (.ref W))
    (h : ∀ h' tk' T T2 W' n' vs' rest', Fr h₀ L h' m → News h₀ L h' rest' → Grows rest rest' → (T, ({ cls := .type "tuple", data := .seq #[.str x t1, .ref T2] } : Obj)) ∈ rest' → (T2, ({ cls := .type "tuple", data := .seq #[.int wo t2, .ref W'] } : Obj)) ∈ rest' → (W', PySem.W.listOf vs'.toArray n') ∈ rest' → WV vs' (if ws = [] then [Str.ofString "int"] else ws) → Q (.ret (.ref T)) { s with heap := h', toks := tk' }) : wpAny (model PySem.Challenge.pw_rk0008_01 w) (lnA dp un gd L outer) (exec (lnSt 9) (lnEnv L)) Q E s := by
  have eL : lnDef = lnDef := rfl
  conv at eL => rhs; whnf
  have eU : lnSt 9 = lnSt 9 := rfl
  conv at eU => rhs; whnf
  rw [eU]
  unfold lnA lnEnv
  rw [eL]
  dsimp only
  cases hwv with
  | nil =>
    walk1
    (repeat' (first | ((k_here; (with_reducible show wpAny _ _ (truthy (Value.ref _)) _ _ _); k_dflt (refine' truthyL ?N ?m ?z ?_; (case N => k_asm); (case m => k_mem); (case z => (try simp only [List.size_toArray, List.length_map, List.length_append, List.length_cons, List.length_nil]); omega); k_whole); (try simp only [List.isEmpty_toArray, List.isEmpty_cons, List.isEmpty_nil, Bool.not_false, Bool.not_true]))) | (k_unfold; (try dsimp only)) | (k_end; kc_close) | walk1 | (dsimp only; walk1) | (leave1; walk_say "STEP leave1"; (try dsimp only)) | fail "no step"))
    rename Fr _ _ _ _ => F8
    rename News _ _ _ _ => N8
    rename _ ∧ _ ∧ AllLt _ rest => l3
    rename _ ∧ AllLt _ rest => l2
    exact h _ _ _ _ _ _ _ _ F8 N8 ((((Grows.refl rest).cons hRest9).cons (lt_two hRest9 l2.1)).cons (lt_three hRest9 l2.1 l3.1)) (.head _) (.tail _ (.head _)) (.tail _ (.tail _ (.head _))) (by rw [if_pos rfl]; exact .cons .nil)
  | cons hwv =>
    rename List Value => vs
    have hvl2 : vs.length ≤ 9 := by simpa using hvl
    walk1
    (repeat' (first | ((k_here; (with_reducible show wpAny _ _ (truthy (Value.ref _)) _ _ _); k_dflt (refine' truthyL ?N ?m ?z ?_; (case N => k_asm); (case m => k_mem); (case z => (try simp only [List.size_toArray, List.length_map, List.length_append, List.length_cons, List.length_nil]); omega); k_whole); (try simp only [List.isEmpty_toArray, List.isEmpty_cons, List.isEmpty_nil, Bool.not_false, Bool.not_true]))) | (k_unfold; (try dsimp only)) | (k_end; kc_close) | walk1 | (dsimp only; walk1) | (leave1; walk_say "STEP leave1"; (try dsimp only)) | fail "no step"))
    rename Fr _ _ _ _ => F8
    rename News _ _ _ _ => N8
    rename _ ∧ AllLt _ rest => l2
    exact h _ _ _ _ _ _ _ _ F8 N8 (((Grows.refl rest).cons hRest9).cons (lt_two hRest9 l2.1)) (.head _) (.tail _ (.head _)) (.tail _ (.tail _ hW)) (by rw [if_neg (List.cons_ne_nil _ _)]; exact .cons hwv)
end
section
open PySem PySem.W PyProof.Rows PySem.Calls
set_option maxRecDepth 100000
set_option maxHeartbeats 400000


/-- the worth of a number -/
noncomputable def worthN (a b : Int) : Nat := (b.fmod (if baseOf (a.fmod 6).toNat = 2 then 16777216 else 1000000000000)).toNat
/-- the digits after the mark -/
noncomputable def coreN (a b : Int) (c : Nat) : List Nat := List.replicate (if (a.fmod 6).toNat = 0 then 0 else ((a.fdiv 6).fmod 3).toNat) 48 ++ digT (baseOf (a.fmod 6).toNat).toNat 60 (worthN a b) c
/-- the text of a number, without its suffix -/
noncomputable def bodyN (a b : Int) (c : Nat) : List Nat := markOf (a.fmod 6).toNat ++ if coreN a b c = [] then [48] else coreN a b c
noncomputable def zN (a : Int) : Nat := ((a.fdiv 18).fmod 4).toNat
noncomputable def textN (a b : Int) (c : Nat) : List Nat := bodyN a b c ++ sufs c (zN a)
noncomputable def wordsN (a : Int) (c : Nat) : List Str := if sufW c (zN a) = [] then [Str.ofString "int"] else sufW c (zN a)
theorem digT_len (b : Nat) : ∀ f r c, (digT b f r c).length ≤ f
  | 0, _, _ => Nat.le_refl _
  | f + 1, r, c => by
    unfold digT
    split
    · exact Nat.zero_le _
    · rw [List.length_append]; exact Nat.succ_le_succ (digT_len b f _ _)
theorem coreN_len (a b : Int) (c : Nat) : (coreN a b c).length ≤ 62 := by
  have h1 := digT_len (baseOf (a.fmod 6).toNat).toNat 60 (worthN a b) c
  have h0 : 0 ≤ (a.fdiv 6).fmod 3 := Int.fmod_nonneg_of_pos _ (by omega)
  have h2 : (a.fdiv 6).fmod 3 < 3 := Int.fmod_lt_of_pos _ (by omega)
  unfold coreN
  rw [List.length_append, List.length_replicate]
  split <;> omega
theorem markOf_len (k : Nat) : (markOf k).length ≤ 2 := by
  unfold markOf
  repeat' split
  all_goals simp
theorem bodyN_len (a b : Int) (c : Nat) : (bodyN a b c).length ≤ 64 := by
  have h1 := coreN_len a b c
  have h2 := markOf_len (a.fmod 6).toNat
  unfold bodyN
  rw [List.length_append]
  split
  · simp; omega
  · omega
theorem number_ok {w : World} {mean : ExcName → Option Value} {mg mb : Str → Option Value} {rest : List (Addr × Obj)} {a b : Int} {c : Nat} {ta tb tc : Tok} :
    CallOk w mean mg mb 490 [.int a ta, .int b tb, .int c tc] rest (fun v l' => ∃ T T2 W' n' vs, v = .ref T ∧ Grows rest l' ∧ (∃ t, (T, ({ cls := .type "tuple", data := .seq #[.str (tx (textN a b c)) t, .ref T2] } : Obj)) ∈ l') ∧ (∃ t, (T2, ({ cls := .type "tuple", data := .seq #[.int (worthN a b) t, .ref W'] } : Obj)) ∈ l') ∧ (W', PySem.W.listOf vs.toArray n') ∈ l' ∧ WV vs (wordsN a c)) 20 200 := by
  intro dp un gd cn csn csg csc csm a' ccd cl9 outer A₀ base h₀ L m s Q E B F X N T hd hu hret
  have hk0 : 0 ≤ a.fmod 6 := Int.fmod_nonneg_of_pos _ (by omega)
  have hk1 : a.fmod 6 < 6 := Int.fmod_lt_of_pos _ (by omega)
  have hkN : a.fmod 6 = ((a.fmod 6).toNat : Int) := (Int.toNat_of_nonneg hk0).symm
  have hk6 : (a.fmod 6).toNat < 6 := (Int.toNat_lt hk0).mpr hk1
  have hb2 : 2 ≤ (baseOf (a.fmod 6).toNat).toNat ∧ (baseOf (a.fmod 6).toNat).toNat ≤ 16 ∧ baseOf (a.fmod 6).toNat = ((baseOf (a.fmod 6).toNat).toNat : Int) := by
    unfold baseOf
    repeat' split
    all_goals exact ⟨by decide, by decide, by decide⟩
  have hw0 : b.fmod (if baseOf (a.fmod 6).toNat = 2 then 16777216 else 1000000000000) = (worthN a b : Int) ∧ worthN a b < 2 ^ 60 := by
    have e0 : 0 ≤ b.fmod (if baseOf (a.fmod 6).toNat = 2 then 16777216 else 1000000000000) := Int.fmod_nonneg_of_pos _ (by split <;> omega)
    have e1 : b.fmod (if baseOf (a.fmod 6).toNat = 2 then 16777216 else 1000000000000) < (if baseOf (a.fmod 6).toNat = 2 then 16777216 else 1000000000000) := Int.fmod_lt_of_pos _ (by split <;> omega)
    have e2 : (if baseOf (a.fmod 6).toNat = 2 then (16777216 : Int) else 1000000000000) ≤ 1000000000000 := by split <;> omega
    unfold worthN
    omega
  refine wpAny_call ?_
  k_dflt k_enter
  rename Below _ _ _ _ => B9
  rename Frag.In _ _ => X9
  rename Top _ _ _ _ _ _ => T9
  rename Fr _ _ _ _ => F9
  rename News _ _ _ _ => N9
  have hr1 : dp + 1 + 10 < recursionLimit := by omega
  have hr2 : un + 3 + 100 < cLine := by omega
  change wpAny (model PySem.Challenge.pw_rk0008_01 w) (lnA _ _ _ _ _) (execs (lnSt 0 :: lnSt 1 :: lnSt 2 :: lnSt 3 :: lnSt 4 :: lnSt 5 :: lnSt 6 :: lnSt 7 :: lnSt 8 :: lnSt 9 :: []) (lnEnv _)) _ _ _
  refine execs_cut (ln_s0 B9 X9 T9 hr1 hr2 F9 N9 (by rfl) fun h1 tk1 t1 F1 N1 => ⟨rfl, ?_⟩)
  rw [hkN] at F1
  refine execs_cut (ln_s1 B9 X9 T9 hr1 hr2 F1 N1 hk6 (if_pos rfl) fun h2 tk2 t2 D2 o2 F2 N2 l2 => ⟨rfl, ?_⟩)
  refine execs_cut (ln_s2 B9 X9 T9 hr1 hr2 F2 N2 (b := b) (by rfl) (if_pos rfl) fun h3 tk3 t3 F3 N3 => ⟨rfl, ?_⟩)
  rw [hw0.1] at F3
  refine execs_cut (ln_s3 B9 X9 T9 hr1 hr2 F3 N3 (c := c) (if_pos rfl) (by rfl) fun h4 tk4 t4 D4 o4 F4 N4 l4 => ⟨rfl, ?_⟩)
  refine execs_cut (ln_s4 B9 X9 T9 hr1 hr2 F4 N4 hb2.1 hb2.2.1 hw0.2 (t4 := t2) (by rw [← hb2.2.2]; rfl) (if_pos rfl) (by rfl) (by rfl) (keep := [(Str.ofString "a", .int a ta), (Str.ofString "c", .int c tc), (Str.ofString "form", .int (a.fmod 6).toNat t1), (Str.ofString "worth", .int (worthN a b) t3)]) ?_ (by passes_own) fun h5 tk5 m5 t5 r5 hk5 ht5 F5 N5 g5 => ⟨rfl, ?_⟩)
  · intro p hp
    simp only [List.mem_cons, List.not_mem_nil, or_false] at hp
    rcases hp with rfl | rfl | rfl | rfl
    all_goals exact ⟨by rfl, by dsimp only; decide, by dsimp only; decide, by dsimp only; decide, by dsimp only; decide⟩
  have ha5 := hk5 _ (.head _)
  have hc5 := hk5 _ (.tail _ (.head _))
  have hf5 := hk5 _ (.tail _ (.tail _ (.head _)))
  have hw5 := hk5 _ (.tail _ (.tail _ (.tail _ (.head _))))
  refine execs_cut (ln_s5 B9 X9 T9 hr1 hr2 F5 N5 (Nat.le_trans (digT_len _ _ _ _) (by omega)) hf5 ha5 ht5 fun h6 tk6 m6 t6 hk6' ht6 F6 N6 => ⟨rfl, ?_⟩)
  change m6 _ = some (Value.str (tx (coreN a b c)) _) at ht6
  refine execs_cut (ln_s6 B9 X9 T9 hr1 hr2 F6 N6 hk6 (Nat.le_trans (coreN_len a b c) (by omega)) ((hk6' _ (by decide)).trans hf5) ht6 fun h7 tk7 t7 D7 o7 F7 N7 l7 => ⟨rfl, ?_⟩)
  change Fr _ _ _ (setN _ (Value.str (tx (bodyN a b c)) _) _) at F7
  refine execs_cut (ln_s7 B9 X9 T9 hr1 hr2 F7 N7 fun h8 tk8 D8 F8 N8 l8 => ⟨rfl, ?_⟩)
  refine execs_cut (ln_s8 B9 X9 T9 hr1 hr2 F8 N8 (.head _) (cur := bodyN a b c) (a := a) (c := c) (Nat.le_trans (bodyN_len a b c) (by omega)) (((if_neg (by decide)).trans ((if_neg (by decide)).trans (hk6' _ (by decide)))).trans ha5) (((if_neg (by decide)).trans ((if_neg (by decide)).trans (hk6' _ (by decide)))).trans hc5) (((if_neg (by decide)).trans (if_pos rfl))) (if_pos rfl) (((if_neg (by decide)).trans ((if_neg (by decide)).trans (hk6' _ (by decide)))).trans hw5) fun h9 tk9 m9 t9 W9 n9 v9 r9 ht9 hw9 hwo9 hwv9 hW9 F9' N9' g9 => ⟨rfl, ?_⟩)
  have hz : zN a < 4 := by
    have h0 : 0 ≤ (a.fdiv 18).fmod 4 := Int.fmod_nonneg_of_pos _ (by omega)
    have h2 : (a.fdiv 18).fmod 4 < 4 := Int.fmod_lt_of_pos _ (by omega)
    exact (Int.toNat_lt h0).mpr h2
  refine execs_ret (ln_s9 B9 X9 T9 hr1 hr2 F9' hwv9 (by rw [hwv9.length, sufW_len]; unfold zN at hz; omega) N9' hW9 ht9 hwo9 hw9 fun h10 tk10 T10 U10 W10 n10 v10 r10 F10 N10 g10 hT hU hW hv => ⟨_, rfl, ?_⟩)
  k_steps
  rename Fr _ _ _ _ => F8
  rename News _ _ _ _ => N8
  refine hret _ _ _ _ ⟨T10, U10, W10, n10, v10, rfl, ?_, ⟨_, hT⟩, ⟨_, hU⟩, hW, hv⟩ F8 N8
  exact ((((((Grows.refl rest).cons l2).cons l4).trans g5).cons l7).cons l8).trans (g9.trans g10)
end
section
open PySem PySem.W PyProof.Rows PySem.Calls
set_option maxRecDepth 100000
set_option maxHeartbeats 400000


/-- a ledger's tail grown by new objects -/
noncomputable def Adds (r r' : List (Addr × Obj)) : Prop := ∃ g, r' = g ++ r ∧ ∀ p ∈ g, ∀ q ∈ r, @Ne Nat q.1 p.1
theorem Adds.refl (r : List (Addr × Obj)) : Adds r r := ⟨[], rfl, fun _ h => nomatch h⟩
theorem Adds.sub {r r' : List (Addr × Obj)} (x : Adds r r') : ∀ p ∈ r, p ∈ r' := by
  obtain ⟨g, rfl, _⟩ := x
  exact fun p hp => List.mem_append_right _ hp
theorem Adds.put {r r' : List (Addr × Obj)} {d : Addr} {o : Obj} (x : Adds r r') (h : AllLt d r) : Adds r ((d, o) :: r') := by
  obtain ⟨g, rfl, hg⟩ := x
  refine ⟨(d, o) :: g, rfl, fun p hp q hq => ?_⟩
  rcases List.mem_cons.mp hp with rfl | hp
  · exact Nat.ne_of_lt (ktn_ltOf h q hq)
  · exact hg p hp q hq
theorem Adds.trans {r r' r'' : List (Addr × Obj)} (x : Adds r r') (y : Adds r' r'') : Adds r r'' := by
  obtain ⟨g, rfl, hg⟩ := x
  obtain ⟨g', rfl, hg'⟩ := y
  refine ⟨g' ++ g, by simp, fun p hp q hq => ?_⟩
  rcases List.mem_append.mp hp with hp | hp
  · exact hg' p hp q (List.mem_append_right _ hq)
  · exact hg p hp q hq
theorem Grows.adds {r r' : List (Addr × Obj)} (x : Grows r r') : Adds r r' := by
  obtain ⟨g, rfl, hg⟩ := x
  exact ⟨g, rfl, fun p hp q hq => Nat.ne_of_lt (hg p hp q hq)⟩
/-- new objects behind the head ones -/
theorem Adds.under {hd : List (Addr × Obj)} {r r' : List (Addr × Obj)} (x : Adds (hd ++ r) r') : ∃ g, r' = g ++ (hd ++ r) ∧ Adds r (g ++ r) ∧ OwnOff g (hd.map (·.1)) := by
  obtain ⟨g, rfl, hg⟩ := x
  refine ⟨g, rfl, ⟨g, rfl, fun p hp q hq => hg p hp q (List.mem_append_right _ hq)⟩, fun p hp b hb => ?_⟩
  obtain ⟨q, hq, rfl⟩ := List.mem_map.mp hb
  exact (hg p hp q (List.mem_append_left _ hq)).symm
theorem news_under {h₀ h : Heap} {L : Addr} {hd g r : List (Addr × Obj)} (N : News h₀ L h (g ++ (hd ++ r))) : News h₀ L h (hd ++ (g ++ r)) := fun p hp => N p (by
  simp only [List.mem_append] at hp ⊢
  rcases hp with hp | hp | hp
  · exact .inr (.inl hp)
  · exact .inl hp
  · exact .inr (.inr hp))
theorem own_app {a b : List (Addr × Obj)} {l : List Addr} (x : OwnOff a l) (y : OwnOff b l) : OwnOff (a ++ b) l := fun p hp => by
  rcases List.mem_append.mp hp with hp | hp
  · exact x p hp
  · exact y p hp
noncomputable abbrev lawA (dp un : Nat) (gd : Option (List Code)) (L fa : Addr) (outer : List Env) : Around := ktrTop dp un gd (Str.ofString "law") lawDefn.2.2 L fa (.ref 499) (cellsFrom (L + 1) lawDefn.2.2.names []) outer
noncomputable def lawSt (i : Nat) : Stmt := lawDefn.2.1.getD i default
noncomputable def barBody : List Stmt := match lawSt 2 with | .For _ _ b _ _ => b | _ => []
noncomputable def barSt (i : Nat) : Stmt := barBody.getD i default

theorem bar_four {ns : List Int} {i : Nat} (hi : 4 * i < ns.length) : List.take 4 (List.take (min (((4 * i : Nat) : Int) + 4).toNat ns.length - ((4 * i : Nat) : Int).toNat) (List.drop ((4 * i : Nat) : Int).toNat ns) ++ [0, 0, 0]) = [ns.getD (4 * i) 0, ns.getD (4 * i + 1) 0, ns.getD (4 * i + 2) 0, ns.getD (4 * i + 3) 0] := by
  have e1 : (((4 * i : Nat) : Int) + 4).toNat = 4 * i + 4 := rfl
  have e2 : ((4 * i : Nat) : Int).toNat = 4 * i := rfl
  rw [e1, e2]
  have g (j : Nat) : ns.getD (4 * i + j) 0 = (ns.drop (4 * i)).getD j 0 := by simp [List.getD, List.getElem?_drop]
  have hr : (ns.drop (4 * i)).length = ns.length - 4 * i := List.length_drop
  rw [show ns.getD (4 * i) 0 = (ns.drop (4 * i)).getD 0 0 from g 0, g 1, g 2, g 3]
  have ez : min (4 * i + 4) ns.length - 4 * i = min 4 (ns.drop (4 * i)).length := by rw [hr, ← Nat.sub_min_sub_right, Nat.add_sub_cancel_left]
  rw [ez]
  generalize ns.drop (4 * i) = r at hr ⊢
  match r, hr with
  | [], hr => simp at hr; omega
  | [_], _ => rfl
  | [_, _], _ => rfl
  | [_, _, _], _ => rfl
  | _ :: _ :: _ :: _ :: r, _ => simp

theorem law_s1 {w : World} {mean : ExcName → Option Value} {mg mb : Str → Option Value} {rest : List (Addr × Obj)} {dp un : Nat} {gd : Option (List Code)} {L fa : Addr} {outer : List Env} {A₀ : Around} {base h₀ : Heap} {m : Str → Option Value} {s : Shared} {E : Value → Shared → Prop} {Q : Flow → Shared → Prop} (B : Below A₀ base outer h₀) (X : (hd.heap_39 w.params).In h₀) (T : Top view loose mean mg mb h₀) (hdp : dp + 30 < recursionLimit) (hun : un + 300 < cLine) (F : Fr h₀ L s.heap m) (N : News h₀ L s.heap rest)
    (h : ∀ h' tk' P W U o, Fr h₀ L h' (setN (Str.ofString "pieces") (.ref P) (setN (Str.ofString "worths") (.ref W) m)) → News h₀ L h' ((U, o) :: (W, PySem.W.listOf ([] : List Value).toArray 0) :: (P, PySem.W.listOf ([] : List Value).toArray 0) :: rest) → (∀ p ∈ rest, p.1 < P) → P < W → W < U → P < U → Q .next { s with heap := h', toks := tk' }) : wpAny (model PySem.Challenge.pw_rk0008_01 w) (lawA dp un gd L fa outer) (exec (lawSt 1) (lawEnv L fa)) Q E s := by
  have eL : lawDefn = lawDefn := rfl
  conv at eL => rhs; whnf
  have eU : lawSt 1 = lawSt 1 := rfl
  conv at eU => rhs; whnf
  rw [eU]
  unfold lawA lawEnv
  rw [eL]
  dsimp only
  walk1
  k_steps
  rename Fr _ _ _ _ => F8
  rename News _ _ _ _ => N8
  rename _ ∧ _ ∧ AllLt _ rest => l3
  rename _ ∧ AllLt _ rest => l2
  exact h _ _ _ _ _ _ F8 N8 (by assumption) l2.1 l3.1 l3.2.1
theorem bar_s0 {w : World} {mean : ExcName → Option Value} {mg mb : Str → Option Value} {rest : List (Addr × Obj)} {dp un : Nat} {gd : Option (List Code)} {L fa : Addr} {outer : List Env} {A₀ : Around} {base h₀ : Heap} {m : Str → Option Value} {s : Shared} {E : Value → Shared → Prop} {Q : Flow → Shared → Prop} (B : Below A₀ base outer h₀) (X : (hd.heap_39 w.params).In h₀) (T : Top view loose mean mg mb h₀) (hdp : dp + 30 < recursionLimit) (hun : un + 300 < cLine) (F : Fr h₀ L s.heap m) (N : News h₀ L s.heap rest) {D : Addr} {nD : Nat} {ys : List Value} {ns : List Int} (hD : (D, PySem.W.listOf ys.toArray nD) ∈ rest) (hys : IntsAre ys ns) (hl : ns.length ≤ 20) {i : Nat} {t1 : Tok} (hi : 4 * i < ns.length) (hat : m (Str.ofString "at") = some (.int ((4 * i : Nat) : Int) t1)) (htape : m (Str.ofString "tape") = some (.ref D))
    (h : ∀ h' tk' rest' t1 t2 t3 t4, Fr h₀ L h' (setN (Str.ofString "g") (.int (ns.getD (4 * i + 3) 0) t4) (setN (Str.ofString "c") (.int (ns.getD (4 * i + 2) 0) t3) (setN (Str.ofString "b") (.int (ns.getD (4 * i + 1) 0) t2) (setN (Str.ofString "a") (.int (ns.getD (4 * i) 0) t1) m)))) → News h₀ L h' rest' → Adds rest rest' → Q .next { s with heap := h', toks := tk' }) : wpAny (model PySem.Challenge.pw_rk0008_01 w) (lawA dp un gd L fa outer) (exec (barSt 0) (lawEnv L fa)) Q E s := by
  have eL : lawDefn = lawDefn := rfl
  conv at eL => rhs; whnf
  have eU : barSt 0 = barSt 0 := rfl
  conv at eU => rhs; whnf
  rw [eU]
  unfold lawA lawEnv
  rw [eL]
  dsimp only
  walk1
  k_steps
  rename IntsAre _ (List.take 4 _) => hI4
  rename Fr _ _ _ _ => F7
  rename News _ _ _ _ => N7
  rw [bar_four hi] at hI4
  cases hI4 with | cons _ u1 hI4 => cases hI4 with | cons _ u2 hI4 => cases hI4 with | cons _ u3 hI4 => cases hI4 with | cons _ u4 hI4 =>
  cases hI4
  k_steps
  rename Fr _ _ _ _ => F8
  rename News _ _ _ _ => N8
  rename _ ∧ _ ∧ _ ∧ AllLt _ rest => l4
  rename _ ∧ _ ∧ AllLt _ rest => l3
  rename _ ∧ AllLt _ rest => l2
  rename AllLt _ rest => l1
  exact h _ _ _ _ _ _ _ F8 N8 (((((Adds.refl rest).put l1).put l2.2).put l3.2.2).put l4.2.2.2)

theorem bar_s1 {w : World} {mean : ExcName → Option Value} {mg mb : Str → Option Value} {rest : List (Addr × Obj)} {dp un : Nat} {gd : Option (List Code)} {L fa : Addr} {outer : List Env} {A₀ : Around} {base h₀ : Heap} {m : Str → Option Value} {s : Shared} {E : Value → Shared → Prop} {Q : Flow → Shared → Prop} (B : Below A₀ base outer h₀) (X : (hd.heap_39 w.params).In h₀) (T : Top view loose mean mg mb h₀) (hdp : dp + 30 < recursionLimit) (hun : un + 300 < cLine) (F : Fr h₀ L s.heap m) (N : News h₀ L s.heap rest) {a b : Int} {c : Nat} {ta tb tc : Tok} (ha : m (Str.ofString "a") = some (.int a ta)) (hb : m (Str.ofString "b") = some (.int b tb)) (hc : m (Str.ofString "c") = some (.int c tc))
    (h : ∀ h' tk' rest' T2 t W' n' vs, Fr h₀ L h' (setN (Str.ofString "worth") (.ref T2) (setN (Str.ofString "text") (.str (tx (textN a b c)) t) m)) → News h₀ L h' rest' → Adds rest rest' → (∃ t, (T2, ({ cls := .type "tuple", data := .seq #[.int (worthN a b) t, .ref W'] } : Obj)) ∈ rest') → (W', PySem.W.listOf vs.toArray n') ∈ rest' → WV vs (wordsN a c) → Q .next { s with heap := h', toks := tk' }) : wpAny (model PySem.Challenge.pw_rk0008_01 w) (lawA dp un gd L fa outer) (exec (barSt 1) (lawEnv L fa)) Q E s := by
  have eL : lawDefn = lawDefn := rfl
  conv at eL => rhs; whnf
  have eU : barSt 1 = barSt 1 := rfl
  conv at eU => rhs; whnf
  rw [eU]
  unfold lawA lawEnv
  rw [eL]
  dsimp only
  walk1
  (repeat' (first | ((k_here; (with_reducible show wpAny _ _ (call (Value.ref _) _) _ _ _); k_dflt (refine' CallOk.use number_ok ?B ?F ?X ?N ?T ?d ?u ?_; (case N => k_asm); (case F => k_asm); (case B => k_asm); (case X => k_asm); (case T => k_asm); (case d => ktr_room); (case u => ktr_units); k_whole); intro v9 l9 h9 tk9 P9 F9 N9; obtain ⟨T9, U9, W9, n9, vs9, e9, g9, ⟨u9, hT9⟩, ⟨u9', hU9⟩, hW9, hwv9⟩ := P9; subst e9; (try dsimp only))) | (k_unfold; (try dsimp only)) | (k_end; kc_close) | walk1 | (dsimp only; walk1) | (leave1; walk_say "STEP leave1"; (try dsimp only)) | fail "no step"))
  rename Fr _ _ _ _ => F8
  rename News _ _ _ _ => N8
  exact h _ _ _ _ _ _ _ _ F8 N8 g9.adds ⟨_, hU9⟩ hW9 hwv9
end
section
open PySem PySem.W PyProof.Rows PySem.Calls
set_option maxRecDepth 100000
set_option maxHeartbeats 400000


theorem ones_gap_len (g least : Int) : (ones (gapT g least)).length ≤ 2 := by
  unfold ones
  rw [List.length_map]
  exact Txt.slice_le _ _ _
theorem setN_same {m : Str → Option Value} {x : Str} {v : Value} (h : m x = some v) : setN x v m = m := funext fun y => by
  show (if y = x then some v else m y) = m y
  split
  · rename_i e; rw [e, h]
  · rfl
theorem piece_end {rest0 rest ts : List (Addr × Obj)} {P X Y Z : Addr} {oX oY oZ : Obj} (g9 : Adds rest0 rest) (off9 : OwnOff rest [P]) (l1 : @LT.lt Nat _ P Z ∧ AllLt Z rest) (l2 : @LT.lt Nat _ Z Y ∧ @LT.lt Nat _ P Y ∧ AllLt Y rest) (l3 : @LT.lt Nat _ Y X ∧ @LT.lt Nat _ Z X ∧ @LT.lt Nat _ P X ∧ AllLt X rest) (hts : ∀ p ∈ ts, p ∈ rest) :
    Adds rest0 ((X, oX) :: (Y, oY) :: (Z, oZ) :: rest) ∧ OwnOff ((X, oX) :: (Y, oY) :: (Z, oZ) :: rest) [P] ∧ ∀ p ∈ ts ++ [(Z, oZ)], p ∈ (X, oX) :: (Y, oY) :: (Z, oZ) :: rest := by
  refine ⟨g9.trans ((((Adds.refl rest).put l1.2).put l2.2.2).put l3.2.2.2), off_cons l3.2.2.1 (off_cons l2.2.1 (off_cons l1.1 off9)), fun p hp => ?_⟩
  rcases List.mem_append.mp hp with hp | hp
  · exact .tail _ (.tail _ (.tail _ (hts p hp)))
  · rw [List.mem_singleton.mp hp]; exact .tail _ (.tail _ (.head _))
theorem news_rot {h₀ h : Heap} {L : Addr} {a b c d : Addr × Obj} {r : List (Addr × Obj)} (N : News h₀ L h (a :: b :: c :: d :: r)) : News h₀ L h (d :: a :: b :: c :: r) := fun p hp => N p (by
  simp only [List.mem_cons] at hp ⊢
  rcases hp with hp | hp | hp | hp | hp <;> first | ((repeat (first | exact hp | exact Or.inl hp | exact Or.inr hp | exact Or.inl (Or.inl hp) | exact Or.inl (Or.inr hp) | exact Or.inl (Or.inr (Or.inl hp)) | exact Or.inl (Or.inr (Or.inr hp)) | apply Or.inr)); done) | simp [hp])
/-- a gap's pieces, the list that is filled standing ahead -/
theorem gap_led {w : World} {mean : ExcName → Option Value} {mg mb : Str → Option Value} {rest : List (Addr × Obj)} {P : Addr} {oP : Obj} (hoff : OwnOff rest [P]) {g least : Int} {tg tl : Tok} (hg : 0 ≤ g) (h0 : 0 ≤ least) (h1 : least ≤ 1) :
    CallOk w mean mg mb 495 [.int g tg, .int least tl] ((P, oP) :: rest) (fun v l' => ∃ D ts rest', v = .ref D ∧ l' = (P, oP) :: rest' ∧ (D, LCg.lst (refs ts)) ∈ rest' ∧ Pairs ts (ones (gapT g least)) ∧ (∀ p ∈ ts, p ∈ rest') ∧ Adds rest rest' ∧ OwnOff rest' [P]) 14 140 := by
  intro dp un gd cn csn csg csc csm a ccd cl9 outer A₀ base h₀ L m s Q E B F X N T hd hu hret
  refine gap_ok hg h0 h1 _ _ _ _ _ _ _ _ _ _ _ _ _ _ _ _ _ _ _ _ B F X N T hd hu ?_
  rintro v l' h' tk' ⟨D, ts, rfl, rfl, hp, hne, hne2⟩ F' N'
  have ha : Adds ([(P, oP)] ++ rest) ((D, LCg.lst (refs ts)) :: (ts ++ (P, oP) :: rest)) := ⟨(D, LCg.lst (refs ts)) :: ts, rfl, fun p hp q hq => hne p hp q hq⟩
  obtain ⟨g, e, ha2, ho⟩ := ha.under
  have e2 : g = (D, LCg.lst (refs ts)) :: ts := List.append_cancel_right (by rw [← e]; rfl)
  subst e2
  refine hret _ ((P, oP) :: (((D, LCg.lst (refs ts)) :: ts) ++ rest)) _ _ ⟨D, ts, _, rfl, rfl, .head _, hp, fun p hp => .tail _ (List.mem_append_left _ hp), ha2, own_app ho hoff⟩ F' (news_under (hd := [(P, oP)]) (g := (D, LCg.lst (refs ts)) :: ts) (r := rest) N')
theorem bar_s2 {w : World} {mean : ExcName → Option Value} {mg mb : Str → Option Value} {rest : List (Addr × Obj)} {dp un : Nat} {gd : Option (List Code)} {L fa : Addr} {outer : List Env} {A₀ : Around} {base h₀ : Heap} {m : Str → Option Value} {s : Shared} {E : Value → Shared → Prop} {Q : Flow → Shared → Prop} (B : Below A₀ base outer h₀) (X : (hd.heap_39 w.params).In h₀) (T : Top view loose mean mg mb h₀) (hdp : dp + 30 < recursionLimit) (hun : un + 300 < cLine) (F : Fr h₀ L s.heap m) {P : Addr} {nP : Nat} {vs : List Value} (hvl : vs.length ≤ 100) (hoff : OwnOff rest [P]) (N : News h₀ L s.heap ((P, PySem.W.listOf vs.toArray nP) :: rest)) {i : Nat} {g : Int} {t1 t2 t3 : Tok} {x : Str} (hg0 : 0 ≤ g) (hat : m (Str.ofString "at") = some (.int ((4 * i : Nat) : Int) t1)) (hg : m (Str.ofString "g") = some (.int g t2)) (ht : m (Str.ofString "text") = some (.str x t3)) (hP : m (Str.ofString "pieces") = some (.ref P))
    (h : ∀ h' tk' rest' ts n', Fr h₀ L h' m → Pairs ts (ones (gapT g (if i = 0 then 0 else 1)) ++ [(Str.ofString "NUMBER", x)]) → News h₀ L h' ((P, PySem.W.listOf (vs ++ refs ts).toArray n') :: rest') → (∀ p ∈ ts, p ∈ rest') → Adds rest rest' → OwnOff rest' [P] → Q .next { s with heap := h', toks := tk' }) : wpAny (model PySem.Challenge.pw_rk0008_01 w) (lawA dp un gd L fa outer) (exec (barSt 2) (lawEnv L fa)) Q E s := by
  have eL : lawDefn = lawDefn := rfl
  conv at eL => rhs; whnf
  have eU : barSt 2 = barSt 2 := rfl
  conv at eU => rhs; whnf
  rw [eU]
  unfold lawA lawEnv
  rw [eL]
  dsimp only
  walk1
  (repeat' (first | ((k_here; (with_reducible show wpAny _ _ (call (Value.ref _) _) _ _ _); k_dflt (refine' CallOk.use (gap_led ?o ?g0 ?l0 ?l1) ?B ?F ?X ?N ?T ?d ?u ?_; (case N => k_asm); (case F => k_asm); (case B => k_asm); (case X => k_asm); (case T => k_asm); (case o => assumption); (case g0 => omega); (case l0 => omega); (case l1 => omega); (case d => ktr_room); (case u => ktr_units); k_whole); intro v9 l9 h9 tk9 P9 F9 N9; obtain ⟨D9, ts9, r9, e9, e9b, hD9, hp9, hts9, g9, off9⟩ := P9; subst e9; subst e9b; (have hl9 := Nat.le_trans (Nat.le_of_eq hp9.length) (ones_gap_len _ _)); obtain ⟨rest0, e0⟩ : ∃ r, r = rest := ⟨_, rfl⟩; subst e0; obtain ⟨rest, e0⟩ : ∃ r, r = r9 := ⟨_, rfl⟩; subst e0; (try dsimp only))) | ((k_here; (with_reducible show wpAny _ _ (inplaceOp _ (Value.ref _) (Value.ref _)) _ _ _); k_dflt (refine' iaddL ?F ?N ?b ?U ?z ?_; (case F => k_asm); (case N => k_asm); (case b => (repeat (first | assumption | exact .head _ | refine .tail _ ?_))); (case U => k_upd); (case z => (simp only [List.length_map, List.length_append, List.length_cons, List.length_nil]; omega)); k_whole); intro h' F' N'; (try dsimp only at N'))) | ((k_here; (with_reducible show wpAny _ _ (binaryOp _ (Value.ref _) (Value.ref _)) _ _ _); k_dflt (refine' addL ?F ?N ?a ?b ?z ?_; (case F => k_asm); (case N => k_asm); (case a => (repeat (first | assumption | exact .head _ | refine .tail _ ?_))); (case b => (repeat (first | assumption | exact .head _ | refine .tail _ ?_))); (case z => (simp only [List.length_map, List.length_append, List.length_cons, List.length_nil]; omega)); k_whole); intro h' D' F' N' l1; (try k_lt l1))) | (k_unfold; (try dsimp only)) | (k_end; kc_close) | walk1 | (dsimp only; walk1) | (leave1; walk_say "STEP leave1"; (try dsimp only)) | fail "no step"))
  all_goals (
    rename Fr _ _ _ _ => F8
    rename News _ _ _ _ => N8
    rename _ ∧ _ ∧ _ ∧ AllLt _ rest => l3
    rename _ ∧ _ ∧ AllLt _ rest => l2
    rename _ ∧ AllLt _ rest => l1
    obtain ⟨k1, k2, k3⟩ := piece_end (oX := _) (oY := _) (oZ := _) g9 off9 l1 l2 l3 hts9)
  · have hi : ¬ i = 0 := by omega
    refine h _ _ _ _ _ (setN_same hP ▸ F8) ?_ (by rw [show ∀ (a : List (Addr × Obj)) p, refs (a ++ [p]) = refs a ++ [Value.ref p.1] from fun a p => by simp [refs]]; exact news_rot N8) k3 k1 k2
    rw [if_neg hi]
    exact .snoc hp9
  · have hi : i = 0 := by omega
    refine h _ _ _ _ _ (setN_same hP ▸ F8) ?_ (by rw [show ∀ (a : List (Addr × Obj)) p, refs (a ++ [p]) = refs a ++ [Value.ref p.1] from fun a p => by simp [refs]]; exact news_rot N8) k3 k1 k2
    rw [if_pos hi]
    exact .snoc hp9
theorem bar_s3 {w : World} {mean : ExcName → Option Value} {mg mb : Str → Option Value} {rest : List (Addr × Obj)} {dp un : Nat} {gd : Option (List Code)} {L fa : Addr} {outer : List Env} {A₀ : Around} {base h₀ : Heap} {m : Str → Option Value} {s : Shared} {E : Value → Shared → Prop} {Q : Flow → Shared → Prop} (B : Below A₀ base outer h₀) (X : (hd.heap_39 w.params).In h₀) (T : Top view loose mean mg mb h₀) (hdp : dp + 30 < recursionLimit) (hun : un + 300 < cLine) (F : Fr h₀ L s.heap m) {W : Addr} {nW : Nat} {vs : List Value} (hvl : vs.length ≤ 100) (hoff : OwnOff rest [W]) (N : News h₀ L s.heap ((W, PySem.W.listOf vs.toArray nW) :: rest)) {U : Addr} (hU : m (Str.ofString "worth") = some (.ref U)) (hW : m (Str.ofString "worths") = some (.ref W))
    (h : ∀ h' tk' n', Fr h₀ L h' m → News h₀ L h' ((W, PySem.W.listOf (vs ++ [Value.ref U]).toArray n') :: rest) → Q .next { s with heap := h', toks := tk' }) : wpAny (model PySem.Challenge.pw_rk0008_01 w) (lawA dp un gd L fa outer) (exec (barSt 3) (lawEnv L fa)) Q E s := by
  have eL : lawDefn = lawDefn := rfl
  conv at eL => rhs; whnf
  have eU : barSt 3 = barSt 3 := rfl
  conv at eU => rhs; whnf
  rw [eU]
  unfold lawA lawEnv
  rw [eL]
  dsimp only
  walk1
  k_steps
  rename Fr _ _ _ _ => F8
  rename News _ _ _ _ => N8
  simp only [List.push_toArray] at N8
  exact h _ _ _ F8 N8
end
section
open PySem PySem.W PyProof.Rows PySem.Calls
set_option maxRecDepth 100000
set_option maxHeartbeats 400000


theorem sumL {prog : Program} {w : World} {A : Around} {E : Value → Shared → Prop} {s : Shared} {h₀ : Heap} {L l : Addr} {m : Str → Option Value} {news : List (Addr × Obj)} {vs : List Value} {n : Nat} {ns : List Int} {Q : Value → Shared → Prop} (F : Fr h₀ L s.heap m) (N : News h₀ L s.heap news) (hm : (l, PySem.W.listOf vs.toArray n) ∈ news) (hh : A.handled = none) (hi : IntsAre vs ns)
    (h : ∀ h' tk t', Fr h₀ L h' m → News h₀ L h' news → Q (.int ns.sum t') { s with heap := h', toks := tk }) : wpAny (model prog w) A (call (.builtin "sum") [.ref l]) Q E s :=
  LSm.sum_ints F N hh ⟨_, (N _ hm).1, rfl, n, rfl⟩ hi h
theorem law_s3 {w : World} {mean : ExcName → Option Value} {mg mb : Str → Option Value} {rest : List (Addr × Obj)} {dp un : Nat} {gd : Option (List Code)} {L fa : Addr} {outer : List Env} {A₀ : Around} {base h₀ : Heap} {m : Str → Option Value} {s : Shared} {E : Value → Shared → Prop} {Q : Flow → Shared → Prop} (B : Below A₀ base outer h₀) (X : (hd.heap_39 w.params).In h₀) (T : Top view loose mean mg mb h₀) (hdp : dp + 30 < recursionLimit) (hun : un + 300 < cLine) (F : Fr h₀ L s.heap m) {P : Addr} {nP : Nat} {vs : List Value} (hvl : vs.length ≤ 100) (hoff : OwnOff rest [P]) (N : News h₀ L s.heap ((P, PySem.W.listOf vs.toArray nP) :: rest)) {D : Addr} {nD : Nat} {ys : List Value} {ns : List Int} (hD : (D, PySem.W.listOf ys.toArray nD) ∈ rest) (hys : IntsAre ys ns) (hl : ns.length ≤ 20) (htape : m (Str.ofString "tape") = some (.ref D)) (hg0 : 0 ≤ ns.sum) (hP : m (Str.ofString "pieces") = some (.ref P))
    (h : ∀ h' tk' rest' ts n', Fr h₀ L h' m → Pairs ts (ones (gapT ns.sum 0)) → News h₀ L h' ((P, PySem.W.listOf (vs ++ refs ts).toArray n') :: rest') → (∀ p ∈ ts, p ∈ rest') → Adds rest rest' → OwnOff rest' [P] → Q .next { s with heap := h', toks := tk' }) : wpAny (model PySem.Challenge.pw_rk0008_01 w) (lawA dp un gd L fa outer) (exec (lawSt 3) (lawEnv L fa)) Q E s := by
  have eL : lawDefn = lawDefn := rfl
  conv at eL => rhs; whnf
  have eU : lawSt 3 = lawSt 3 := rfl
  conv at eU => rhs; whnf
  rw [eU]
  unfold lawA lawEnv
  rw [eL]
  dsimp only
  walk1
  (repeat' (first | ((k_here; (with_reducible show wpAny _ _ (call (Value.builtin "sum") [Value.ref _]) _ _ _); k_dflt (refine' sumL ?F ?N ?m rfl ?i ?_; (case F => k_asm); (case N => k_asm); (case i => assumption); (case m => (repeat (first | assumption | exact .head _ | refine .tail _ ?_))); k_whole); intro h' tk' t' F' N')) | ((k_here; (with_reducible show wpAny _ _ (call (Value.ref _) _) _ _ _); k_dflt (refine' CallOk.use (gap_led ?o ?g0 ?l0 ?l1) ?B ?F ?X ?N ?T ?d ?u ?_; (case N => k_asm); (case F => k_asm); (case B => k_asm); (case X => k_asm); (case T => k_asm); (case o => assumption); (case g0 => omega); (case l0 => omega); (case l1 => omega); (case d => ktr_room); (case u => ktr_units); k_whole); intro v9 l9 h9 tk9 P9 F9 N9; obtain ⟨D9, ts9, r9, e9, e9b, hD9, hp9, hts9, g9, off9⟩ := P9; subst e9; subst e9b; (have hl9 := Nat.le_trans (Nat.le_of_eq hp9.length) (ones_gap_len _ _)); obtain ⟨rest0, e0⟩ : ∃ r, r = rest := ⟨_, rfl⟩; subst e0; obtain ⟨rest, e0⟩ : ∃ r, r = r9 := ⟨_, rfl⟩; subst e0; (try dsimp only))) | ((k_here; (with_reducible show wpAny _ _ (inplaceOp _ (Value.ref _) (Value.ref _)) _ _ _); k_dflt (refine' iaddL ?F ?N ?b ?U ?z ?_; (case F => k_asm); (case N => k_asm); (case b => (repeat (first | assumption | exact .head _ | refine .tail _ ?_))); (case U => k_upd); (case z => (simp only [List.length_map, List.length_append, List.length_cons, List.length_nil]; omega)); k_whole); intro h' F' N'; (try dsimp only at N'))) | (k_unfold; (try dsimp only)) | (k_end; kc_close) | walk1 | (dsimp only; walk1) | (leave1; walk_say "STEP leave1"; (try dsimp only)) | fail "no step"))
  rename Fr _ _ _ _ => F8
  rename News _ _ _ _ => N8
  exact h _ _ _ _ _ (setN_same hP ▸ F8) hp9 N8 hts9 g9 off9
end
section
open PySem PySem.W PyProof.Rows PySem.Calls
set_option maxRecDepth 100000
set_option maxHeartbeats 400000


theorem snl : Str.ofString "\n" = tx [10] := by decide +kernel
theorem allLt_up {a b : Addr} {l : List (Addr × Obj)} (h : AllLt a l) (k : @LT.lt Nat _ a b) : AllLt b l := allLt_of fun p hp => Nat.lt_trans (ktn_ltOf h p hp) k
theorem char_end {rest : List (Addr × Obj)} {C d1 x1 d2 x2 : Addr} {o1 o2 o3 o4 : Obj} (hoff : OwnOff rest [C]) (l1 : @LT.lt Nat _ C d1 ∧ AllLt d1 rest) (l2 : @LT.lt Nat _ d1 x1) (l3 : @LT.lt Nat _ x1 d2 ∧ @LT.lt Nat _ d1 d2 ∧ @LT.lt Nat _ C d2 ∧ AllLt d2 rest) (l4 : @LT.lt Nat _ d2 x2) :
    Adds rest ((x2, o1) :: (d2, o2) :: (x1, o3) :: (d1, o4) :: rest) ∧ OwnOff ((x2, o1) :: (d2, o2) :: (x1, o3) :: (d1, o4) :: rest) [C] ∧ AllLt x2 rest :=
  ⟨((((Adds.refl rest).put l1.2).put (allLt_up l1.2 l2)).put l3.2.2.2).put (allLt_up l3.2.2.2 l4), off_cons (Nat.lt_trans l3.2.2.1 l4) (off_cons l3.2.2.1 (off_cons (Nat.lt_trans l1.1 l2) (off_cons l1.1 hoff))), allLt_up l3.2.2.2 l4⟩
theorem own_part {a b c d : Addr × Obj} {r : List (Addr × Obj)} {l : List Addr} (x : OwnOff (a :: b :: c :: d :: r) l) : OwnOff [a, b, c, d] l := fun p hp => x p (by
  simp only [List.mem_cons, List.not_mem_nil, or_false] at hp ⊢
  rcases hp with hp | hp | hp | hp <;> first | ((repeat (first | exact hp | exact Or.inl hp | exact Or.inr hp | exact Or.inl (Or.inl hp) | exact Or.inl (Or.inr hp) | exact Or.inl (Or.inr (Or.inl hp)) | exact Or.inl (Or.inr (Or.inr hp)) | apply Or.inr)); done) | simp [hp])
theorem news_rot4 {h₀ h : Heap} {L : Addr} {a b c d e : Addr × Obj} {r : List (Addr × Obj)} (N : News h₀ L h (a :: b :: c :: d :: e :: r)) : News h₀ L h (e :: a :: b :: c :: d :: r) := fun p hp => N p (by
  simp only [List.mem_cons] at hp ⊢
  rcases hp with hp | hp | hp | hp | hp | hp <;> first | ((repeat (first | exact hp | exact Or.inl hp | exact Or.inr hp | exact Or.inl (Or.inl hp) | exact Or.inl (Or.inr hp) | exact Or.inl (Or.inr (Or.inl hp)) | exact Or.inl (Or.inr (Or.inr hp)) | apply Or.inr)); done) | simp [hp])
noncomputable def dueBody : List Stmt := match lawSt 5 with | .For _ _ b _ _ => b | _ => []
noncomputable def dueSt (i : Nat) : Stmt := dueBody.getD i default
noncomputable def inBody : List Stmt := match dueSt 1 with | .For _ _ b _ _ => b | _ => []
noncomputable def inSt (i : Nat) : Stmt := inBody.getD i default
theorem law_s4 {w : World} {mean : ExcName → Option Value} {mg mb : Str → Option Value} {rest : List (Addr × Obj)} {dp un : Nat} {gd : Option (List Code)} {L fa : Addr} {outer : List Env} {A₀ : Around} {base h₀ : Heap} {m : Str → Option Value} {s : Shared} {E : Value → Shared → Prop} {Q : Flow → Shared → Prop} (B : Below A₀ base outer h₀) (X : (hd.heap_39 w.params).In h₀) (T : Top view loose mean mg mb h₀) (hdp : dp + 30 < recursionLimit) (hun : un + 300 < cLine) (F : Fr h₀ L s.heap m) (N : News h₀ L s.heap rest)
    (h : ∀ h' tk' C U o X t1 t2, Fr h₀ L h' (setN (Str.ofString "column") (.int 1 t2) (setN (Str.ofString "row") (.int 1 t1) (setN (Str.ofString "due") (.ref U) (setN (Str.ofString "chars") (.ref C) m)))) → News h₀ L h' ((X, o) :: (U, PySem.W.listOf ([] : List Value).toArray 0) :: (C, PySem.W.listOf ([] : List Value).toArray 0) :: rest) → AllLt C rest → AllLt U rest → AllLt X rest → @LT.lt Nat _ C U → @LT.lt Nat _ C X → @LT.lt Nat _ U X → Q .next { s with heap := h', toks := tk' }) : wpAny (model PySem.Challenge.pw_rk0008_01 w) (lawA dp un gd L fa outer) (exec (lawSt 4) (lawEnv L fa)) Q E s := by
  have eL : lawDefn = lawDefn := rfl
  conv at eL => rhs; whnf
  have eU : lawSt 4 = lawSt 4 := rfl
  conv at eU => rhs; whnf
  rw [eU]
  unfold lawA lawEnv
  rw [eL]
  dsimp only
  walk1
  k_steps
  rename Fr _ _ _ _ => F8
  rename News _ _ _ _ => N8
  rename _ ∧ _ ∧ AllLt _ rest => l3
  rename _ ∧ AllLt _ rest => l2
  rename AllLt _ rest => l1
  exact h _ _ _ _ _ _ _ _ F8 N8 l1 l2.2 l3.2.2 l2.1 l3.2.1 l3.1
theorem due_s0 {w : World} {mean : ExcName → Option Value} {mg mb : Str → Option Value} {rest : List (Addr × Obj)} {dp un : Nat} {gd : Option (List Code)} {L fa : Addr} {outer : List Env} {A₀ : Around} {base h₀ : Heap} {m : Str → Option Value} {s : Shared} {E : Value → Shared → Prop} {Q : Flow → Shared → Prop} (B : Below A₀ base outer h₀) (X : (hd.heap_39 w.params).In h₀) (T : Top view loose mean mg mb h₀) (hdp : dp + 30 < recursionLimit) (hun : un + 300 < cLine) (F : Fr h₀ L s.heap m) {U : Addr} {nU : Nat} {vs : List Value} (hvl : vs.length ≤ 100) (hoff : OwnOff rest [U]) (N : News h₀ L s.heap ((U, PySem.W.listOf vs.toArray nU) :: rest)) {kd x : Str} {row col : Int} {t1 t2 t3 t4 : Tok} (hU : m (Str.ofString "due") = some (.ref U)) (hk : m (Str.ofString "kind") = some (.str kd t1)) (hx : m (Str.ofString "text") = some (.str x t2)) (hr : m (Str.ofString "row") = some (.int row t3)) (hc : m (Str.ofString "column") = some (.int col t4))
    (h : ∀ h' tk' d u1 u2 u3 u4 n', Fr h₀ L h' m → News h₀ L h' ((d, quad kd x row col u1 u2 u3 u4) :: (U, PySem.W.listOf (vs ++ [Value.ref d]).toArray n') :: rest) → AllLt d rest → @LT.lt Nat _ U d → Q .next { s with heap := h', toks := tk' }) : wpAny (model PySem.Challenge.pw_rk0008_01 w) (lawA dp un gd L fa outer) (exec (dueSt 0) (lawEnv L fa)) Q E s := by
  have eL : lawDefn = lawDefn := rfl
  conv at eL => rhs; whnf
  have eU : dueSt 0 = dueSt 0 := rfl
  conv at eU => rhs; whnf
  rw [eU]
  unfold lawA lawEnv
  rw [eL]
  dsimp only
  walk1
  k_steps
  rename Fr _ _ _ _ => F8
  rename News _ _ _ _ => N8
  rename _ ∧ AllLt _ rest => l1
  simp only [List.push_toArray] at N8
  exact h _ _ _ _ _ _ _ _ F8 N8 l1.2 l1.1
theorem in_s0 {w : World} {mean : ExcName → Option Value} {mg mb : Str → Option Value} {rest : List (Addr × Obj)} {dp un : Nat} {gd : Option (List Code)} {L fa : Addr} {outer : List Env} {A₀ : Around} {base h₀ : Heap} {m : Str → Option Value} {s : Shared} {E : Value → Shared → Prop} {Q : Flow → Shared → Prop} (B : Below A₀ base outer h₀) (X : (hd.heap_39 w.params).In h₀) (T : Top view loose mean mg mb h₀) (hdp : dp + 30 < recursionLimit) (hun : un + 300 < cLine) (F : Fr h₀ L s.heap m) {C : Addr} {nC : Nat} {vs : List Value} (hvl : vs.length ≤ 1000) (hoff : OwnOff rest [C]) (N : News h₀ L s.heap ((C, PySem.W.listOf vs.toArray nC) :: rest)) {c : Nat} {row col : Int} {t2 t3 t4 : Tok} (hU : m (Str.ofString "chars") = some (.ref C)) (hx : m (Str.ofString "sign") = some (.str ⟨#[c]⟩ t2)) (hr : m (Str.ofString "row") = some (.int row t3)) (hc : m (Str.ofString "column") = some (.int col t4))
    (h : ∀ h' tk' d n' g lo, Fr h₀ L h' m → News h₀ L h' ((C, PySem.W.listOf (vs ++ [Value.ref d]).toArray n') :: (g ++ rest)) → CharIn g d c lo → LocIn g lo row col → Adds rest (g ++ rest) → OwnOff g [C] → AllLt d rest → Q .next { s with heap := h', toks := tk' }) : wpAny (model PySem.Challenge.pw_rk0008_01 w) (lawA dp un gd L fa outer) (exec (inSt 0) (lawEnv L fa)) Q E s := by
  have eL : lawDefn = lawDefn := rfl
  conv at eL => rhs; whnf
  have eU : inSt 0 = inSt 0 := rfl
  conv at eU => rhs; whnf
  rw [eU]
  unfold lawA lawEnv
  rw [eL]
  dsimp only
  walk1
  k_steps
  rename Fr _ _ _ _ => F8
  rename News _ _ _ _ => N8
  rename _ ∧ _ ∧ _ ∧ AllLt _ rest => l3
  rename _ ∧ AllLt _ rest => l1
  simp only [List.push_toArray] at N8
  obtain ⟨k1, k2, k3⟩ := char_end hoff l1 (by assumption) l3 (by assumption)
  exact h _ _ _ _ [_, _, _, _] _ F8 (news_rot4 N8) ⟨_, _, _, _, _, _, _, .head _, .tail _ (.head _)⟩ ⟨_, _, _, _, _, .tail _ (.tail _ (.head _)), .tail _ (.tail _ (.tail _ (.head _)))⟩ k1 (own_part k2) k3
theorem in_s1 {w : World} {mean : ExcName → Option Value} {mg mb : Str → Option Value} {rest : List (Addr × Obj)} {dp un : Nat} {gd : Option (List Code)} {L fa : Addr} {outer : List Env} {A₀ : Around} {base h₀ : Heap} {m : Str → Option Value} {s : Shared} {E : Value → Shared → Prop} {Q : Flow → Shared → Prop} (B : Below A₀ base outer h₀) (X : (hd.heap_39 w.params).In h₀) (T : Top view loose mean mg mb h₀) (hdp : dp + 30 < recursionLimit) (hun : un + 300 < cLine) (F : Fr h₀ L s.heap m) (N : News h₀ L s.heap rest) {c : Nat} {row col : Int} {t2 t3 t4 : Tok} (hx : m (Str.ofString "sign") = some (.str ⟨#[c]⟩ t2)) (hr : m (Str.ofString "row") = some (.int row t3)) (hc : m (Str.ofString "column") = some (.int col t4))
    (h : ∀ h' tk' rest' t1 t2, Fr h₀ L h' (setN (Str.ofString "column") (.int (if c = 10 then 1 else col + 1) t2) (setN (Str.ofString "row") (.int (if c = 10 then row + 1 else row) t1) m)) → News h₀ L h' rest' → Adds rest rest' → Q .next { s with heap := h', toks := tk' }) : wpAny (model PySem.Challenge.pw_rk0008_01 w) (lawA dp un gd L fa outer) (exec (inSt 1) (lawEnv L fa)) Q E s := by
  have eL : lawDefn = lawDefn := rfl
  conv at eL => rhs; whnf
  have eU : inSt 1 = inSt 1 := rfl
  conv at eU => rhs; whnf
  rw [eU]
  unfold lawA lawEnv
  rw [eL]
  dsimp only
  walk1
  k_steps
  all_goals (rename Fr _ _ _ _ => F8; rename News _ _ _ _ => N8; rename AllLt _ rest => l1)
  · rename (_ == _) = true => c1
    have hc10 : c = 10 := by
      rw [snl] at c1
      simpa using eq_of_beq c1
    rw [if_pos hc10, if_pos hc10] at h
    exact h _ _ _ _ _ F8 N8 ((Adds.refl rest).put l1)
  · rename (_ == _) = false => c1
    have hc10 : ¬ c = 10 := fun e => by rw [snl, e] at c1; simp at c1
    rw [if_neg hc10, if_neg hc10] at h
    exact h _ _ _ _ _ F8 N8 ((Adds.refl rest).put l1)
end
section
open PySem PySem.W PyProof.Rows PySem.Calls
set_option maxRecDepth 100000
set_option maxHeartbeats 400000


theorem lenL {prog : Program} {w : World} {A : Around} {E : Value → Shared → Prop} {s : Shared} {h₀ : Heap} {L l : Addr} {news : List (Addr × Obj)} {vs : List Value} {n : Nat} {ns : List Int} {Q : Value → Shared → Prop} (N : News h₀ L s.heap news) (hm : (l, PySem.W.listOf vs.toArray n) ∈ news) (hi : IntsAre vs ns) (hz : ns.length ≤ 1000)
    (h : Q (.int (ns.length : Nat) (s.toks + 1)) { s with toks := s.toks + 1 + 1 }) : wpAny (model prog w) A (call (.builtin "len") [.ref l]) Q E s :=
  len_ints_fit ⟨_, (N _ hm).1, rfl, n, rfl⟩ hi (Nat.lt_of_le_of_lt hz (by decide)) h
noncomputable def barIter : PySem.Expr := match lawSt 2 with | .For _ i _ _ _ => i | _ => .Constant .none 0 default
theorem bar_size {n : Nat} (h0 : 0 < n) (h1 : n ≤ 20) : PySem.Builtin.Range.small 0 (n : Int) 4 = true ∧ PySem.Builtin.Range.rangeSize 0 (n : Int) 4 = (((n + 3) / 4 : Nat) : Int) := by
  have key : ∀ n : Nat, n < 21 → 0 < n → PySem.Builtin.Range.small 0 (n : Int) 4 = true ∧ PySem.Builtin.Range.rangeSize 0 (n : Int) 4 = (((n + 3) / 4 : Nat) : Int) := by decide +kernel
  exact key n (by omega) h0
theorem bar_iter {w : World} {mean : ExcName → Option Value} {mg mb : Str → Option Value} {rest : List (Addr × Obj)} {dp un : Nat} {gd : Option (List Code)} {L fa : Addr} {outer : List Env} {A₀ : Around} {base h₀ : Heap} {m : Str → Option Value} {s : Shared} {E : Value → Shared → Prop} {Q : Value → Shared → Prop} (B : Below A₀ base outer h₀) (X : (hd.heap_39 w.params).In h₀) (T : Top view loose mean mg mb h₀) (hdp : dp + 30 < recursionLimit) (hun : un + 300 < cLine) (F : Fr h₀ L s.heap m) (N : News h₀ L s.heap rest) {D : Addr} {nD : Nat} {ys : List Value} {ns : List Int} (hD : (D, PySem.W.listOf ys.toArray nD) ∈ rest) (hys : IntsAre ys ns) (hl : ns.length ≤ 20) (htape : m (Str.ofString "tape") = some (.ref D))
    (h : ∀ h' tk' r t u v, IsRange h' r 0 (ns.length : Nat) 4 t u v → Fr h₀ L h' m → News h₀ L h' rest → Q (.ref r) { s with heap := h', toks := tk' }) : wpAny (model PySem.Challenge.pw_rk0008_01 w) (lawA dp un gd L fa outer) (eval (barIter) (lawEnv L fa)) Q E s := by
  have eL : lawDefn = lawDefn := rfl
  conv at eL => rhs; whnf
  have eU : barIter = barIter := rfl
  conv at eU => rhs; whnf
  rw [eU]
  unfold lawA lawEnv
  rw [eL]
  dsimp only
  walk1
  (repeat' (first | ((k_here; (with_reducible show wpAny _ _ (call (Value.builtin "len") [Value.ref _]) _ _ _); k_dflt (refine' lenL ?N ?m ?i ?z ?_; (case N => k_asm); (case i => assumption); (case m => (repeat (first | assumption | exact .head _ | refine .tail _ ?_))); (case z => omega); k_whole))) | (k_unfold; (try dsimp only)) | (k_end; kc_close) | walk1 | (dsimp only; walk1) | (leave1; walk_say "STEP leave1"; (try dsimp only)) | fail "no step"))
  rename IsRange _ _ _ _ _ _ _ _ => R8
  rename Fr _ _ _ _ => F8
  rename News _ _ _ _ => N8
  exact h _ _ _ _ _ _ R8 F8 N8
/-- the pieces of a bar -/
noncomputable def barK (ns : List Int) (i : Nat) : List (Str × Str) := ones (gapT (ns.getD (4 * i + 3) 0) (if i = 0 then 0 else 1)) ++ [(Str.ofString "NUMBER", tx (textN (ns.getD (4 * i) 0) (ns.getD (4 * i + 1) 0) (ns.getD (4 * i + 2) 0).toNat))]
noncomputable def barsK (ns : List Int) : Nat → List (Str × Str)
  | 0 => []
  | i + 1 => barsK ns i ++ barK ns i
noncomputable def barW (ns : List Int) (i : Nat) : Nat × List Str := (worthN (ns.getD (4 * i) 0) (ns.getD (4 * i + 1) 0), wordsN (ns.getD (4 * i) 0) (ns.getD (4 * i + 2) 0).toNat)
noncomputable def barsW (ns : List Int) : Nat → List (Nat × List Str)
  | 0 => []
  | i + 1 => barsW ns i ++ [barW ns i]
theorem barK_len (ns : List Int) (i : Nat) : (barK ns i).length ≤ 3 := by
  unfold barK
  rw [List.length_append]
  exact Nat.succ_le_succ (ones_gap_len _ _)
theorem barsK_len (ns : List Int) : ∀ i, (barsK ns i).length ≤ 3 * i
  | 0 => Nat.le_refl _
  | i + 1 => by
    have h1 := barsK_len ns i
    have h2 := barK_len ns i
    unfold barsK
    rw [List.length_append]
    omega
theorem barsW_len (ns : List Int) : ∀ i, (barsW ns i).length = i
  | 0 => rfl
  | i + 1 => by simp [barsW, barsW_len ns i]
/-- the worths as the law's list holds them -/
inductive Worths (l : List (Addr × Obj)) : List Value → List (Nat × List Str) → Prop
  | nil : Worths l [] []
  | snoc {vs : List Value} {ws : List (Nat × List Str)} {U W : Addr} {n : Nat} {t : Tok} {k : Nat} {us : List Value} {wd : List Str} : Worths l vs ws → (U, ({ cls := .type "tuple", data := .seq #[.int (n : Nat) t, .ref W] } : Obj)) ∈ l → (W, PySem.W.listOf us.toArray k) ∈ l → WV us wd → Worths l (vs ++ [.ref U]) (ws ++ [(n, wd)])
theorem Worths.sub {l l' : List (Addr × Obj)} {vs : List Value} {ws : List (Nat × List Str)} (h : Worths l vs ws) (s : ∀ p ∈ l, p ∈ l') : Worths l' vs ws := by
  induction h with
  | nil => exact .nil
  | snoc _ a b c ih => exact .snoc ih (s _ a) (s _ b) c
theorem Worths.length {l : List (Addr × Obj)} {vs : List Value} {ws : List (Nat × List Str)} (h : Worths l vs ws) : vs.length = ws.length := by
  induction h with
  | nil => rfl
  | snoc _ _ _ _ ih => simp [ih]
theorem Pairs.app {a b : List (Addr × Obj)} {k l : List (Str × Str)} (x : Pairs a k) (y : Pairs b l) : Pairs (a ++ b) (k ++ l) := by
  induction y with
  | nil => simpa using x
  | snoc _ ih => rw [← List.append_assoc, ← List.append_assoc]; exact .snoc ih
theorem execs_end {M : Model} {A : Around} {env : Env} {Q : Flow → Shared → Prop} {E : Value → Shared → Prop} {s : Shared} (h : Q .next s) : wpAny M A (execs [] env) Q E s := by
  rw [execs_nil]
  exact wpAny_pure h
theorem own_sub {a b : List (Addr × Obj)} {l l' : List Addr} (x : OwnOff a l) (s : ∀ p ∈ b, p ∈ a) (t : ∀ c ∈ l', c ∈ l) : OwnOff b l' := fun p hp c hc => x p (s p hp) c (t c hc)
theorem own_cons {d : Addr} {o : Obj} {r : List (Addr × Obj)} {l : List Addr} (h : ∀ c ∈ l, @Ne Nat d c) (x : OwnOff r l) : OwnOff ((d, o) :: r) l := fun p hp c hc => by
  rcases List.mem_cons.mp hp with rfl | hp
  · exact h c hc
  · exact x p hp c hc
/-- new objects put behind three -/
theorem adds3 {a b c : Addr × Obj} {r r' : List (Addr × Obj)} {h₀ h : Heap} {L : Addr} (x : Adds (a :: b :: c :: r) r') (N : News h₀ L h r') (off : OwnOff r [a.1, b.1, c.1]) : ∃ q, Adds r q ∧ OwnOff q [a.1, b.1, c.1] ∧ News h₀ L h (a :: b :: c :: q) ∧ ∀ p ∈ r', p ∈ a :: b :: c :: q := by
  obtain ⟨g, rfl, h2, h3⟩ := Adds.under (hd := [a, b, c]) (r := r) x
  refine ⟨g ++ r, h2, own_app h3 off, news_under (hd := [a, b, c]) N, fun p hp => ?_⟩
  simp only [List.mem_append, List.mem_cons, List.cons_append, List.nil_append] at hp ⊢
  rcases hp with hp | hp | hp | hp | hp <;> first | ((repeat (first | exact hp | exact Or.inl hp | exact Or.inr hp | exact Or.inl (Or.inl hp) | exact Or.inl (Or.inr hp) | exact Or.inl (Or.inr (Or.inl hp)) | exact Or.inl (Or.inr (Or.inr hp)) | apply Or.inr)); done) | simp [hp]
theorem iter_tup {o : Obj} (h : IterO o) : ¬ o.cls = .type "tuple" := fun e => by
  unfold IterO at h
  rw [e] at h
  simp at h
theorem iter_lst {o : Obj} (h : IterO o) : ¬ o.cls = .type "list" := fun e => by
  unfold IterO at h
  rw [e] at h
  simp at h
theorem Pairs.cls {ts : List (Addr × Obj)} {ks : List (Str × Str)} (h : Pairs ts ks) : ∀ p ∈ ts, p.2.cls = .type "tuple" := by
  induction h with
  | nil => exact fun _ h => nomatch h
  | snoc _ ih =>
    intro p hp
    rcases List.mem_append.mp hp with hp | hp
    · exact ih p hp
    · rw [List.mem_singleton.mp hp]
theorem tup_in {I P W U : Addr} {oI o : Obj} {a b : Array Value} {k l : Nat} {r : List (Addr × Obj)} (hI : IterO oI) (ho : o.cls = .type "tuple") (h : (U, o) ∈ (I, oI) :: (P, PySem.W.listOf a k) :: (W, PySem.W.listOf b l) :: r) : (U, o) ∈ r := by
  simp only [List.mem_cons] at h
  rcases h with h | h | h | h
  · exact absurd ((congrArg (fun p : Addr × Obj => p.2.cls) h).symm.trans ho) (iter_tup hI)
  · have z := (congrArg (fun p : Addr × Obj => p.2.cls) h).symm.trans ho
    simp at z
  · have z := (congrArg (fun p : Addr × Obj => p.2.cls) h).symm.trans ho
    simp at z
  · exact h
theorem wv_no_ref {us vs : List Value} {wd : List Str} {a b : Nat} {U P : Addr} (hwv : WV us wd) (hne : wd ≠ []) (hr : ∀ v ∈ vs, ∃ a, v = Value.ref a) (h : (U, PySem.W.listOf us.toArray a) = (P, PySem.W.listOf vs.toArray b)) : False := by
  have z := congrArg (fun p : Addr × Obj => p.2.data) h
  simp only [Data.seq.injEq] at z
  have e : us = vs := by simpa using z.1
  subst e
  cases hwv with
  | nil => exact hne rfl
  | cons _ => obtain ⟨c, hc⟩ := hr _ (.head _); cases hc
theorem words_in {I P W U : Addr} {oI : Obj} {us vp vw : List Value} {n k l : Nat} {wd : List Str} {r : List (Addr × Obj)} (hI : IterO oI) (hrp : ∀ v ∈ vp, ∃ a, v = Value.ref a) (hrw : ∀ v ∈ vw, ∃ a, v = Value.ref a) (hwv : WV us wd) (hne : wd ≠ []) (h : (U, PySem.W.listOf us.toArray n) ∈ (I, oI) :: (P, PySem.W.listOf vp.toArray k) :: (W, PySem.W.listOf vw.toArray l) :: r) : (U, PySem.W.listOf us.toArray n) ∈ r := by
  simp only [List.mem_cons] at h
  rcases h with h | h | h | h
  · exact absurd ((congrArg (fun p : Addr × Obj => p.2.cls) h).symm.trans rfl) (iter_lst hI)
  · exact (wv_no_ref hwv hne hrp h).elim
  · exact (wv_no_ref hwv hne hrw h).elim
  · exact h
theorem wordsN_ne (a : Int) (c : Nat) : wordsN a c ≠ [] := by
  unfold wordsN
  split
  · exact List.cons_ne_nil _ _
  · assumption
theorem bar_body {w : World} {mean : ExcName → Option Value} {mg mb : Str → Option Value} {rest : List (Addr × Obj)} {dp un : Nat} {gd : Option (List Code)} {L fa : Addr} {outer : List Env} {A₀ : Around} {base h₀ : Heap} {m : Str → Option Value} {s : Shared} {E : Value → Shared → Prop} {Q : Flow → Shared → Prop} (B : Below A₀ base outer h₀) (X : (hd.heap_39 w.params).In h₀) (T : Top view loose mean mg mb h₀) (hdp : dp + 30 < recursionLimit) (hun : un + 300 < cLine) (F : Fr h₀ L s.heap m) {I P W : Addr} {oI : Obj} {nP nW : Nat} {vp vw : List Value} (hvp : vp.length ≤ 90) (hvw : vw.length ≤ 90) (hIt : IterO oI) (hrp : ∀ v ∈ vp, ∃ a, v = Value.ref a) (hrw : ∀ v ∈ vw, ∃ a, v = Value.ref a) (hIP : @Ne Nat P I) (hIW : @Ne Nat W I) (hPW : @Ne Nat P W) (hoff : OwnOff rest [I, P, W]) (N : News h₀ L s.heap ((I, oI) :: (P, PySem.W.listOf vp.toArray nP) :: (W, PySem.W.listOf vw.toArray nW) :: rest))
    {D : Addr} {nD : Nat} {ys : List Value} {ns : List Int} (hD : (D, PySem.W.listOf ys.toArray nD) ∈ rest) (hys : IntsAre ys ns) (hl : ns.length ≤ 20) (hn0 : ∀ k, 0 ≤ ns.getD k 0) {i : Nat} {t1 : Tok} (hi : 4 * i < ns.length) (hat : m (Str.ofString "at") = some (.int ((4 * i : Nat) : Int) t1)) (htape : m (Str.ofString "tape") = some (.ref D)) (hP : m (Str.ofString "pieces") = some (.ref P)) (hW : m (Str.ofString "worths") = some (.ref W))
    (h : ∀ h' tk' m' rest' ts nP' U W' t n' us nW', m' (Str.ofString "tape") = some (.ref D) → m' (Str.ofString "pieces") = some (.ref P) → m' (Str.ofString "worths") = some (.ref W) → Fr h₀ L h' m' → News h₀ L h' ((I, oI) :: (P, PySem.W.listOf (vp ++ refs ts).toArray nP') :: (W, PySem.W.listOf (vw ++ [Value.ref U]).toArray nW') :: rest') → Adds rest rest' → OwnOff rest' [I, P, W] →
      Pairs ts (barK ns i) → (∀ p ∈ ts, p ∈ rest') → (U, ({ cls := .type "tuple", data := .seq #[.int ((barW ns i).1 : Nat) t, .ref W'] } : Obj)) ∈ rest' → (W', PySem.W.listOf us.toArray n') ∈ rest' → WV us (barW ns i).2 → Q .next { s with heap := h', toks := tk' }) : wpAny (model PySem.Challenge.pw_rk0008_01 w) (lawA dp un gd L fa outer) (execs (barBody) (lawEnv L fa)) Q E s := by
  change wpAny _ _ (execs (barSt 0 :: barSt 1 :: barSt 2 :: barSt 3 :: []) _) _ _ _
  refine execs_cut (bar_s0 B X T hdp hun F N (.tail _ (.tail _ (.tail _ hD))) hys hl hi hat htape fun h1 tk1 r1 u1 u2 u3 u4 F1 N1 a1 => ⟨rfl, ?_⟩)
  obtain ⟨q1, b1, o1, M1, _⟩ := adds3 a1 N1 hoff
  have ec : ns.getD (4 * i + 2) 0 = (((ns.getD (4 * i + 2) 0).toNat : Nat) : Int) := (Int.toNat_of_nonneg (hn0 _)).symm
  rw [ec] at F1
  refine execs_cut (bar_s1 B X T hdp hun F1 M1 (a := ns.getD (4 * i) 0) (b := ns.getD (4 * i + 1) 0) (c := (ns.getD (4 * i + 2) 0).toNat) (ta := u1) (tb := u2) (tc := u3) (by rfl) (by rfl) (by rfl) fun h2 tk2 r2 U t2 W' n' us F2 N2 a2 hU hW' hwv => ⟨rfl, ?_⟩)
  obtain ⟨tU, hU⟩ := hU
  obtain ⟨q2, b2, o2, M2, s2⟩ := adds3 a2 N2 o1
  have hU2 := tup_in hIt rfl (s2 _ hU)
  have hW2 := words_in hIt hrp hrw hwv (wordsN_ne _ _) (s2 _ hW')
  have M2' : News h₀ L h2 ((P, PySem.W.listOf vp.toArray nP) :: (I, oI) :: (W, PySem.W.listOf vw.toArray nW) :: q2) := fun p hp => M2 p (by
    simp only [List.mem_cons] at hp ⊢
    rcases hp with hp | hp | hp | hp <;> first | ((repeat (first | exact hp | exact Or.inl hp | exact Or.inr hp | exact Or.inl (Or.inl hp) | exact Or.inl (Or.inr hp) | exact Or.inl (Or.inr (Or.inl hp)) | exact Or.inl (Or.inr (Or.inr hp)) | apply Or.inr)); done) | simp [hp])
  have oP : OwnOff ((I, oI) :: (W, PySem.W.listOf vw.toArray nW) :: q2) [P] := own_cons (by simpa using Ne.symm hIP) (own_cons (by simpa using Ne.symm hPW) (own_sub o2 (fun _ h => h) (by simp)))
  refine execs_cut (bar_s2 B X T hdp hun F2 (by omega) oP M2' (i := i) (g := ns.getD (4 * i + 3) 0) (x := tx (textN (ns.getD (4 * i) 0) (ns.getD (4 * i + 1) 0) (ns.getD (4 * i + 2) 0).toNat)) (t1 := t1) (t2 := u4) (t3 := t2) (hn0 _) ((if_neg (by decide)).trans ((if_neg (by decide)).trans ((if_neg (by decide)).trans ((if_neg (by decide)).trans ((if_neg (by decide)).trans ((if_neg (by decide)).trans hat)))))) (by rfl) (by rfl) ((if_neg (by decide)).trans ((if_neg (by decide)).trans ((if_neg (by decide)).trans ((if_neg (by decide)).trans ((if_neg (by decide)).trans ((if_neg (by decide)).trans hP)))))) fun h3 tk3 r3 ts n3 F3 hts N3 hsub a3 o3 => ⟨rfl, ?_⟩)
  obtain ⟨g3, rfl, a4, o4⟩ := Adds.under (hd := [(I, oI), (W, PySem.W.listOf vw.toArray nW)]) (r := q2) a3
  have o5 : OwnOff (g3 ++ q2) [I, P, W] := own_app (fun p hp c hc => by
    simp only [List.mem_cons, List.not_mem_nil, or_false] at hc
    rcases hc with rfl | rfl | rfl
    · exact o4 p hp _ (by simp)
    · exact o3 p (List.mem_append_left _ hp) _ (by simp)
    · exact o4 p hp _ (by simp)) o2
  have hts2 : ∀ p ∈ ts, p ∈ g3 ++ q2 := fun p hp => by
    have z := hsub p hp
    have zc := hts.cls p hp
    simp only [List.mem_append, List.mem_cons, List.cons_append, List.nil_append] at z ⊢
    rcases z with z | z | z | z
    · exact .inl z
    · rw [z] at zc
      exact absurd zc (iter_tup hIt)
    · rw [z] at zc
      simp at zc
    · exact .inr z
  have M3 : News h₀ L h3 ((W, PySem.W.listOf vw.toArray nW) :: (I, oI) :: (P, PySem.W.listOf (vp ++ refs ts).toArray n3) :: (g3 ++ q2)) := fun p hp => N3 p (by
    simp only [List.mem_cons, List.mem_append, List.cons_append, List.nil_append] at hp ⊢
    rcases hp with hp | hp | hp | hp | hp <;> first | ((repeat (first | exact hp | exact Or.inl hp | exact Or.inr hp | exact Or.inl (Or.inl hp) | exact Or.inl (Or.inr hp) | exact Or.inl (Or.inr (Or.inl hp)) | exact Or.inl (Or.inr (Or.inr hp)) | apply Or.inr)); done) | simp [hp])
  refine execs_cut (bar_s3 B X T hdp hun F3 (by omega) (own_cons (by simpa using Ne.symm hIW) (own_cons (by simpa using hPW) (own_sub o5 (fun _ h => h) (by simp)))) M3 (by rfl) ((if_neg (by decide)).trans ((if_neg (by decide)).trans ((if_neg (by decide)).trans ((if_neg (by decide)).trans ((if_neg (by decide)).trans ((if_neg (by decide)).trans hW)))))) fun h4 tk4 n4 F4 N4 => ⟨rfl, execs_end ?_⟩)
  refine h h4 tk4 _ (g3 ++ q2) ts n3 U W' tU n' us n4 ((if_neg (by decide)).trans ((if_neg (by decide)).trans ((if_neg (by decide)).trans ((if_neg (by decide)).trans ((if_neg (by decide)).trans ((if_neg (by decide)).trans htape)))))) ((if_neg (by decide)).trans ((if_neg (by decide)).trans ((if_neg (by decide)).trans ((if_neg (by decide)).trans ((if_neg (by decide)).trans ((if_neg (by decide)).trans hP)))))) ((if_neg (by decide)).trans ((if_neg (by decide)).trans ((if_neg (by decide)).trans ((if_neg (by decide)).trans ((if_neg (by decide)).trans ((if_neg (by decide)).trans hW)))))) F4 (fun p hp => N4 p (by
    simp only [List.mem_cons] at hp ⊢
    rcases hp with hp | hp | hp | hp <;> first | ((repeat (first | exact hp | exact Or.inl hp | exact Or.inr hp | exact Or.inl (Or.inl hp) | exact Or.inl (Or.inr hp) | exact Or.inl (Or.inr (Or.inl hp)) | exact Or.inl (Or.inr (Or.inr hp)) | apply Or.inr)); done) | simp [hp])) (b1.trans (b2.trans a4)) o5 hts hts2 (List.mem_append_right _ hU2) (List.mem_append_right _ hW2) hwv
end
section
open PySem PySem.W PyProof.Rows PySem.Calls
set_option maxRecDepth 100000
set_option maxHeartbeats 400000


theorem Worths.isref {l : List (Addr × Obj)} {vs : List Value} {ws : List (Nat × List Str)} (h : Worths l vs ws) : ∀ v ∈ vs, ∃ a, v = Value.ref a := by
  induction h with
  | nil => exact fun _ h => nomatch h
  | snoc _ _ _ _ ih =>
    intro v hv
    rcases List.mem_append.mp hv with hv | hv
    · exact ih v hv
    · exact ⟨_, List.mem_singleton.mp hv⟩
theorem law_s2 {w : World} {mean : ExcName → Option Value} {mg mb : Str → Option Value} {rest : List (Addr × Obj)} {dp un : Nat} {gd : Option (List Code)} {L fa : Addr} {outer : List Env} {A₀ : Around} {base h₀ : Heap} {m : Str → Option Value} {s : Shared} {E : Value → Shared → Prop} {Q : Flow → Shared → Prop} (B : Below A₀ base outer h₀) (X : (hd.heap_39 w.params).In h₀) (T : Top view loose mean mg mb h₀) (hdp : dp + 30 < recursionLimit) (hun : un + 300 < cLine) (F : Fr h₀ L s.heap m) {P W : Addr} {nP nW : Nat} (hPW : @Ne Nat P W) (hoff : OwnOff rest [P, W]) (N : News h₀ L s.heap ((P, PySem.W.listOf ([] : List Value).toArray nP) :: (W, PySem.W.listOf ([] : List Value).toArray nW) :: rest))
    {D : Addr} {nD : Nat} {ys : List Value} {ns : List Int} (hD : (D, PySem.W.listOf ys.toArray nD) ∈ rest) (hys : IntsAre ys ns) (hl : ns.length ≤ 20) (hl0 : 0 < ns.length) (hn0 : ∀ k, 0 ≤ ns.getD k 0) (htape : m (Str.ofString "tape") = some (.ref D)) (hP : m (Str.ofString "pieces") = some (.ref P)) (hW : m (Str.ofString "worths") = some (.ref W))
    (h : ∀ h' tk' m' rest' ts wts nP' nW', m' (Str.ofString "tape") = some (.ref D) → m' (Str.ofString "pieces") = some (.ref P) → m' (Str.ofString "worths") = some (.ref W) → Fr h₀ L h' m' → News h₀ L h' ((P, PySem.W.listOf (refs ts).toArray nP') :: (W, PySem.W.listOf wts.toArray nW') :: rest') → Adds rest rest' → OwnOff rest' [P, W] →
      Pairs ts (barsK ns ((ns.length + 3) / 4)) → (∀ p ∈ ts, p ∈ rest') → Worths rest' wts (barsW ns ((ns.length + 3) / 4)) → Q .next { s with heap := h', toks := tk' }) : wpAny (model PySem.Challenge.pw_rk0008_01 w) (lawA dp un gd L fa outer) (exec (lawSt 2) (lawEnv L fa)) Q E s := by
  obtain ⟨hsm, hsz⟩ := bar_size hl0 hl
  change wpAny _ _ (exec (.For (.Name (Str.ofString "at") _) barIter barBody [] _) (lawEnv L fa)) Q E s
  refine wpAny_For (bar_iter B X T hdp hun F N (.tail _ (.tail _ hD)) hys hl htape fun h1 tk1 r t u v hr F1 N1 => ?_)
  refine for_range rfl F1 N1 hr hsm hsz (fun i m' nw => ∃ ts wts nP' nW' rest', m' (Str.ofString "tape") = some (.ref D) ∧ m' (Str.ofString "pieces") = some (.ref P) ∧ m' (Str.ofString "worths") = some (.ref W) ∧ nw = (P, PySem.W.listOf (refs ts).toArray nP') :: (W, PySem.W.listOf wts.toArray nW') :: rest' ∧ Adds rest rest' ∧ OwnOff rest' [P, W] ∧ Pairs ts (barsK ns i) ∧ (∀ p ∈ ts, p ∈ rest') ∧ Worths rest' wts (barsW ns i))
    ⟨[], [], nP, nW, rest, htape, hP, hW, rfl, .refl _, hoff, .nil, (fun _ h => nomatch h), .nil⟩ ?_ ?_
  · rintro I i v m₁ nw h2 tk2 oI E' hI hi ⟨tv, rfl⟩ ⟨ts, wts, nP', nW', rest', htape', hP', hW', rfl, ha, ho, hts, hsub, hw⟩ F2 N2 hnI hIt
    have hi4 : 4 * i < ns.length := by omega
    have hi5 : i < 5 := by omega
    have e0 : (0 : Int) + (i : Int) * 4 = ((4 * i : Nat) : Int) := by omega
    rw [e0]
    refine wpAny_assign_Name (wpAny_storeName_local (by rfl) F2.ns (fun h3 hn3 hs3 => ?_) (by rfl))
    have hL₀ : h₀.get? L = none := Heap.get?_none_of_le F2.above
    have F3 : Fr h₀ L h3 (setN (Str.ofString "at") (.int ((4 * i : Nat) : Int) tv) m₁) := ⟨hn3, fun b o e => hs3.extBut b o (fun q => by rw [q, hL₀] at e; cases e) (F2.keep b o e), F2.above⟩
    have N3 : News h₀ L h3 ((I, oI) :: (P, PySem.W.listOf (refs ts).toArray nP') :: (W, PySem.W.listOf wts.toArray nW') :: rest') := fun p hp => ⟨hs3.extBut _ _ (N2 p hp).2.1 (N2 p hp).1, (N2 p hp).2⟩
    have hPI := hnI _ (.head _)
    have hWI := hnI _ (.tail _ (.head _))
    have oI3 : OwnOff rest' [I, P, W] := fun p hp c hc => by
      rcases List.mem_cons.mp hc with rfl | hc
      · exact hnI p (.tail _ (.tail _ hp))
      · exact ho p hp c hc
    have lts : (refs ts).length ≤ 90 := by
      have := barsK_len ns i
      rw [List.length_map, hts.length]; omega
    have lws : wts.length ≤ 90 := by rw [hw.length, barsW_len]; omega
    refine bar_body B X T hdp hun F3 lts lws hIt (fun v hv => by obtain ⟨p, _, rfl⟩ := List.mem_map.mp hv; exact ⟨_, rfl⟩) hw.isref (hnI _ (.head _)) (hnI _ (.tail _ (.head _))) hPW oI3 N3 (ha.sub _ hD) hys hl hn0 hi4 (if_pos rfl) ((if_neg (by decide)).trans htape') ((if_neg (by decide)).trans hP') ((if_neg (by decide)).trans hW')
      fun h4 tk4 m4 r4 ts4 nP4 U W4 t4 n4 us4 nW4 htape4 hP4 hW4 F4 N4 a4 o4 hts4 hsub4 hU4 hW4' hwv4 => ?_
    have e1 : refs ts ++ refs ts4 = refs (ts ++ ts4) := by simp [refs]
    rw [e1] at N4
    refine ⟨rfl, h4, tk4, m4, _, rfl, F4, N4, ?_, trivial, ts ++ ts4, wts ++ [.ref U], nP4, nW4, r4, htape4, hP4, hW4, rfl, ha.trans a4, own_sub o4 (fun _ h => h) (by simp), hts.app hts4, ?_, .snoc (hw.sub a4.sub) hU4 hW4' hwv4⟩
    · intro p hp
      rcases List.mem_cons.mp hp with rfl | hp
      · exact hPI
      · rcases List.mem_cons.mp hp with rfl | hp
        · exact hWI
        · exact o4 p hp I (by simp)
    · intro p hp
      rcases List.mem_append.mp hp with hp | hp
      · exact a4.sub p (hsub p hp)
      · exact hsub4 p hp
  · rintro m₁ nw h2 tk2 ⟨ts, wts, nP', nW', rest', htape', hP', hW', rfl, ha, ho, hts, hsub, hw⟩ F2 N2
    exact h _ _ _ _ _ _ _ _ htape' hP' hW' F2 N2 ha ho hts hsub hw
end
section
open PySem PySem.W PyProof.Rows PySem.Calls
set_option maxRecDepth 100000
set_option maxHeartbeats 400000


/-- a sign object: its place, its place object, its sign, where it stands -/
structure CI where
  c : Addr
  lo : Addr
  g : Nat
  row : Int
  col : Int
noncomputable abbrev crefs (l : List CI) : List Value := l.map fun x => Value.ref x.c
/-- the first sign stands at this place -/
noncomputable def FirstAt (l : List CI) (r c : Int) : Prop := ∀ x xs, l = x :: xs → x.row = r ∧ x.col = c
theorem CharIn.sub7 {l l' : List (Addr × Obj)} {c lo : Addr} {g : Nat} (h : CharIn l c g lo) (s : ∀ p ∈ l, p ∈ l') : CharIn l' c g lo := by
  obtain ⟨a1, a2, a3, a4, a5, a6, a7, h1, h2⟩ := h
  exact ⟨a1, a2, a3, a4, a5, a6, a7, s _ h1, s _ h2⟩
theorem LocIn.sub7 {l l' : List (Addr × Obj)} {a : Addr} {r c : Int} (h : LocIn l a r c) (s : ∀ p ∈ l, p ∈ l') : LocIn l' a r c := by
  obtain ⟨a1, a2, a3, a4, a5, h1, h2⟩ := h
  exact ⟨a1, a2, a3, a4, a5, s _ h1, s _ h2⟩
theorem Adds.gap {g r : List (Addr × Obj)} (x : Adds r (g ++ r)) : ∀ p ∈ g, ∀ q ∈ r, @Ne Nat q.1 p.1 := by
  obtain ⟨g', e, h⟩ := x
  rw [List.append_cancel_right e]
  exact h
theorem in_loop {w : World} {mean : ExcName → Option Value} {mg mb : Str → Option Value} {rest : List (Addr × Obj)} {dp un : Nat} {gd : Option (List Code)} {L fa : Addr} {outer : List Env} {A₀ : Around} {base h₀ : Heap} {m : Str → Option Value} {s : Shared} {E : Value → Shared → Prop} {Q : Flow → Shared → Prop} (B : Below A₀ base outer h₀) (X : (hd.heap_39 w.params).In h₀) (T : Top view loose mean mg mb h₀) (hdp : dp + 30 < recursionLimit) (hun : un + 300 < cLine) (F : Fr h₀ L s.heap m) {C : Addr} {nC : Nat} {vs : List Value} {x : Str} (hvl : vs.length + x.cps.size ≤ 900) (hoff : OwnOff rest [C]) (N : News h₀ L s.heap ((C, PySem.W.listOf vs.toArray nC) :: rest)) {row col : Int} {t2 t3 t4 : Tok} (hC : m (Str.ofString "chars") = some (.ref C)) (hx : m (Str.ofString "text") = some (.str x t2)) (hr : m (Str.ofString "row") = some (.int row t3)) (hc : m (Str.ofString "column") = some (.int col t4))
    (h : ∀ h' tk' m' l g nC' row' col' t1 t2, l.map CI.g = x.cps.toList → FirstAt l row col → (∀ y, y ≠ Str.ofString "sign" → y ≠ Str.ofString "row" → y ≠ Str.ofString "column" → m' y = m y) → m' (Str.ofString "row") = some (.int row' t1) → m' (Str.ofString "column") = some (.int col' t2) → Fr h₀ L h' m' → News h₀ L h' ((C, PySem.W.listOf (vs ++ crefs l).toArray nC') :: (g ++ rest)) → Adds rest (g ++ rest) → OwnOff g [C] →
      (∀ z ∈ l, CharIn g z.c z.g z.lo ∧ LocIn g z.lo z.row z.col ∧ AllLt z.c rest) → l.Pairwise (fun a b => @LT.lt Nat _ a.c b.c) → Q .next { s with heap := h', toks := tk' }) : wpAny (model PySem.Challenge.pw_rk0008_01 w) (lawA dp un gd L fa outer) (exec (dueSt 1) (lawEnv L fa)) Q E s := by
  change wpAny _ _ (exec (.For (.Name (Str.ofString "sign") _) (.Name (Str.ofString "text") _) inBody [] _) (lawEnv L fa)) Q E s
  refine wpAny_For (nameX_L F hx ?_ (by rfl) (by rfl))
  refine for_str rfl F N (fun j m' nw => ∃ l g nC' row' col' t1 t2, l.map CI.g = x.cps.toList.take j ∧ FirstAt l row col ∧ (l = [] → row' = row ∧ col' = col) ∧ (∀ y, y ≠ Str.ofString "sign" → y ≠ Str.ofString "row" → y ≠ Str.ofString "column" → m' y = m y) ∧ m' (Str.ofString "row") = some (.int row' t1) ∧ m' (Str.ofString "column") = some (.int col' t2) ∧ nw = (C, PySem.W.listOf (vs ++ crefs l).toArray nC') :: (g ++ rest) ∧ Adds rest (g ++ rest) ∧ OwnOff g [C] ∧
      (∀ z ∈ l, CharIn g z.c z.g z.lo ∧ LocIn g z.lo z.row z.col ∧ AllLt z.c rest) ∧ l.Pairwise (fun a b => @LT.lt Nat _ a.c b.c))
    ⟨[], [], nC, row, col, t3, t4, rfl, (fun _ _ e => nomatch e), (fun _ => ⟨rfl, rfl⟩), (fun _ _ _ _ => rfl), hr, hc, by simp, .refl _, (fun _ h => nomatch h), (fun _ h => nomatch h), .nil⟩ ?_ ?_
  · intro I j v m₁ nw h2 tk2 oI E' hI hj P911 P912
    refine hideG fun H9 k9 => ?_
    obtain ⟨sc, u, hsc, rfl⟩ := P911
    obtain ⟨l, g, nC', row', col', t1', t2', hlg, hfi, hem, hkeep, hr', hc', rfl, ha, ho, hch, hpw⟩ := P912
    refine k9 ?_
    clear k9
    intro F2 N2 hnI hIt
    refine wpAny_assign_Name (wpAny_storeName_local (by rfl) F2.ns (fun h3 hn3 hs3 => ?_) (by rfl))
    have hL₀ : h₀.get? L = none := Heap.get?_none_of_le F2.above
    have F3 : Fr h₀ L h3 (setN (Str.ofString "sign") (.str ⟨#[sc]⟩ u) m₁) := ⟨hn3, fun b o e => hs3.extBut b o (fun q => by rw [q, hL₀] at e; cases e) (F2.keep b o e), F2.above⟩
    have N3 : News h₀ L h3 ((C, PySem.W.listOf (vs ++ crefs l).toArray nC') :: (I, oI) :: (g ++ rest)) := fun p hp => by
      have hp' : p ∈ (I, oI) :: (C, PySem.W.listOf (vs ++ crefs l).toArray nC') :: (g ++ rest) := by
        simp only [List.mem_cons] at hp ⊢
        rcases hp with hp | hp | hp <;> first | ((repeat (first | exact hp | exact Or.inl hp | exact Or.inr hp | exact Or.inl (Or.inl hp) | exact Or.inl (Or.inr hp) | exact Or.inl (Or.inr (Or.inl hp)) | exact Or.inl (Or.inr (Or.inr hp)) | apply Or.inr)); done) | simp [hp]
      exact ⟨hs3.extBut _ _ (N2 p hp').2.1 (N2 p hp').1, (N2 p hp').2⟩
    have hCI := hnI _ (.head _)
    have hll : l.length ≤ x.cps.size := by
      have := congrArg List.length hlg
      simp at this; omega
    change wpAny _ _ (execs (inSt 0 :: inSt 1 :: []) _) _ _ _
    refine execs_cut (in_s0 B X T hdp hun F3 (vs := vs ++ crefs l) (by simp; omega) (own_cons (by simpa using Ne.symm hCI) (own_app ho hoff)) N3 ((if_neg (by decide)).trans ((hkeep _ (by decide) (by decide) (by decide)).trans hC)) (if_pos rfl) ((if_neg (by decide)).trans hr') ((if_neg (by decide)).trans hc') fun h4 tk4 d n4 g4 lo4 F4 N4 hcI4 hlo4 a4 o4 hd4 => ⟨rfl, ?_⟩)
    refine execs_cut (in_s1 B X T hdp hun F4 N4 (if_pos rfl) ((if_neg (by decide)).trans hr') ((if_neg (by decide)).trans hc') fun h5_ tk5 r5 u1 u2 F5 N5 a5 => ⟨rfl, execs_end ?_⟩)
    obtain ⟨g5, rfl, h5⟩ := a5
    have h4 := a4.gap
    have h0 := ha.gap
    have hIn : ∀ p ∈ g5 ++ (g4 ++ g), p.1 ≠ I := fun p hp => by
      simp only [List.mem_append] at hp
      rcases hp with hp | hp | hp
      · exact (h5 p hp (I, oI) (.tail _ (List.mem_append_right _ (.head _)))).symm
      · exact (h4 p hp (I, oI) (.head _)).symm
      · exact hnI p (.tail _ (List.mem_append_left _ hp))
    have hnew : ∀ p ∈ g5 ++ (g4 ++ g), ∀ q ∈ rest, @Ne Nat q.1 p.1 := fun p hp q hq => by
      simp only [List.mem_append] at hp
      rcases hp with hp | hp | hp
      · exact h5 p hp q (.tail _ (List.mem_append_right _ (.tail _ (List.mem_append_right _ hq))))
      · exact h4 p hp q (.tail _ (List.mem_append_right _ hq))
      · exact h0 p hp q hq
    have hCn : OwnOff (g5 ++ (g4 ++ g)) [C] := own_app (fun p hp c hc => by rw [List.mem_singleton.mp hc]; exact (h5 p hp _ (.head _)).symm) (own_app o4 ho)
    have hd5 := ktn_ltOf hd4
    have e1 : vs ++ crefs l ++ [Value.ref d] = vs ++ crefs (l ++ [(⟨d, lo4, sc, row', col'⟩ : CI)]) := by simp
    rw [e1] at N5
    refine ⟨rfl, h5_, tk5, _, (C, PySem.W.listOf (vs ++ crefs (l ++ [(⟨d, lo4, sc, row', col'⟩ : CI)])).toArray n4) :: ((g5 ++ (g4 ++ g)) ++ rest), rfl, F5, fun p hp => N5 p ?_, fun p hp => ?_, trivial, l ++ [(⟨d, lo4, sc, row', col'⟩ : CI)], g5 ++ (g4 ++ g), n4, _, _, u1, u2, ?_, ?_, ?_, fun y a b c => (if_neg c).trans ((if_neg b).trans ((if_neg a).trans (hkeep y a b c))), (if_neg (by decide)).trans (if_pos rfl), if_pos rfl, rfl, ⟨_, rfl, hnew⟩, hCn, ?_, ?_⟩
    · simp only [List.mem_cons, List.mem_append] at hp ⊢
      rcases hp with hp | hp | (hp | hp | hp) | hp <;> first | ((repeat (first | exact hp | exact Or.inl hp | exact Or.inr hp | exact Or.inl (Or.inl hp) | exact Or.inl (Or.inr hp) | exact Or.inl (Or.inr (Or.inl hp)) | exact Or.inl (Or.inr (Or.inr hp)) | apply Or.inr)); done) | simp [hp]
    · rcases List.mem_cons.mp hp with rfl | hp
      · exact hCI
      · rcases List.mem_append.mp hp with hp | hp
        · exact hIn p hp
        · exact hnI p (.tail _ (List.mem_append_right _ hp))
    · have hg : x.cps.toList[j]? = some sc := by rw [Array.getElem?_toList]; exact hsc
      rw [List.map_append, hlg, List.take_add_one, hg]; rfl
    · intro z zs ez
      cases l with
      | nil =>
        obtain ⟨e1, e2⟩ := hem rfl
        cases ez
        exact ⟨e1, e2⟩
      | cons z' l' =>
        cases ez
        exact hfi _ _ rfl
    · intro e
      simp at e
    · intro z hz
      rcases List.mem_append.mp hz with hz | hz
      · obtain ⟨k1, k2, k3⟩ := hch z hz
        exact ⟨k1.sub7 fun p hp => List.mem_append_right _ (List.mem_append_right _ hp), k2.sub7 fun p hp => List.mem_append_right _ (List.mem_append_right _ hp), k3⟩
      · rw [List.mem_singleton.mp hz]
        exact ⟨hcI4.sub7 fun p hp => List.mem_append_right _ (List.mem_append_left _ hp), hlo4.sub7 fun p hp => List.mem_append_right _ (List.mem_append_left _ hp), allLt_of fun p hp => hd5 p (.tail _ (List.mem_append_right _ hp))⟩
    · refine List.pairwise_append.mpr ⟨hpw, List.pairwise_singleton _ _, fun a ha' b hb => ?_⟩
      rw [List.mem_singleton.mp hb]
      obtain ⟨⟨dc, _, _, _, _, _, _, k1, _⟩, _⟩ := hch a ha'
      exact hd5 _ (.tail _ (List.mem_append_left _ k1))
  · intro m₁ nw h2 tk2 P94
    refine hideG fun H9 k9 => ?_
    obtain ⟨l, g, nC', row', col', t1', t2', hlg, hfi, hem, hkeep, hr', hc', rfl, ha, ho, hch, hpw⟩ := P94
    refine k9 ?_
    clear k9
    intro F2 N2
    have e : x.cps.toList.take x.cps.size = x.cps.toList := List.take_of_length_le (by simp)
    rw [e] at hlg
    exact h _ _ _ _ _ _ _ _ _ _ hlg hfi hkeep hr' hc' F2 N2 ha ho hch hpw
end
section
open PySem PySem.W PyProof.Rows PySem.Calls
set_option maxRecDepth 100000
set_option maxHeartbeats 400000


noncomputable def dueTgt : PySem.Expr := match lawSt 5 with | .For t _ _ _ _ => t | _ => .Constant .none 0 default
noncomputable def dueElts : List PySem.Expr := match dueTgt with | .Tuple e _ _ => e | _ => []
theorem due_assign {w : World} {mean : ExcName → Option Value} {mg mb : Str → Option Value} {rest : List (Addr × Obj)} {dp un : Nat} {gd : Option (List Code)} {L fa : Addr} {outer : List Env} {A₀ : Around} {base h₀ : Heap} {m : Str → Option Value} {s : Shared} {E : Value → Shared → Prop} {Q : Unit → Shared → Prop} (B : Below A₀ base outer h₀) (X : (hd.heap_39 w.params).In h₀) (T : Top view loose mean mg mb h₀) (hdp : dp + 30 < recursionLimit) (hun : un + 300 < cLine) (F : Fr h₀ L s.heap m) (N : News h₀ L s.heap rest) {d : Addr} {kd x : Str} {u1 u2 : Tok} (hd : (d, pairO kd x u1 u2) ∈ rest)
    (h : ∀ h' tk', Fr h₀ L h' (setN (Str.ofString "text") (.str x u2) (setN (Str.ofString "kind") (.str kd u1) m)) → News h₀ L h' rest → Q () { s with heap := h', toks := tk' }) : wpAny (model PySem.Challenge.pw_rk0008_01 w) (lawA dp un gd L fa outer) (assign dueTgt (lawEnv L fa) (.ref d)) Q E s := by
  have eL : lawDefn = lawDefn := rfl
  conv at eL => rhs; whnf
  have eU : dueTgt = dueTgt := rfl
  conv at eU => rhs; whnf
  rw [eU]
  unfold lawA lawEnv
  rw [eL]
  dsimp only
  walk1
  k_steps
  rename Fr _ _ _ _ => F8
  rename News _ _ _ _ => N8
  exact h _ _ F8 N8
/-- what is due, as the law's list holds it -/
inductive Dues : List (Addr × Obj) → List (Str × List CI) → Prop
  | nil : Dues [] []
  | snoc {us : List (Addr × Obj)} {gs : List (Str × List CI)} {d : Addr} {kd x : Str} {l : List CI} {r c : Int} {u1 u2 u3 u4 : Tok} : Dues us gs → l ≠ [] → FirstAt l r c → l.map CI.g = x.cps.toList → Dues (us ++ [(d, quad kd x r c u1 u2 u3 u4)]) (gs ++ [(kd, l)])
theorem Dues.length {us : List (Addr × Obj)} {gs : List (Str × List CI)} (h : Dues us gs) : us.length = gs.length := by
  induction h with
  | nil => rfl
  | snoc _ _ _ _ ih => simp [ih]
theorem Pairs.get {ts : List (Addr × Obj)} {ks : List (Str × Str)} (h : Pairs ts ks) : ∀ {i : Nat} {p : Addr × Obj}, ts[i]? = some p → ∃ kd x u1 u2, p = (p.1, pairO kd x u1 u2) ∧ ks[i]? = some (kd, x) := by
  induction h with
  | nil => intro i p e; simp at e
  | @snoc ts ks d kd txt u1 u2 hp ih =>
    intro i p e
    by_cases hi : i < ts.length
    · rw [List.getElem?_append_left hi] at e
      obtain ⟨a, b, c, f, h1, h2⟩ := ih e
      exact ⟨a, b, c, f, h1, by rw [List.getElem?_append_left (hp.length ▸ hi)]; exact h2⟩
    · have hi' : i = ts.length := by
        have := (List.getElem?_eq_some_iff.mp e).1
        simp at this; omega
      subst hi'
      have e1 : (ts ++ [(d, pairO kd txt u1 u2)])[ts.length]? = some (d, pairO kd txt u1 u2) := by simp
      rw [e1] at e
      cases e
      exact ⟨kd, txt, u1, u2, rfl, by rw [hp.length]; simp⟩
noncomputable abbrev flatG (gs : List (Str × List CI)) : List CI := gs.flatMap (·.2)
noncomputable def sizes (ks : List (Str × Str)) : Nat := (ks.map fun k => k.2.cps.size).sum
theorem flat_len : ∀ (gs : List (Str × List CI)) (kk : List (Str × Str)), gs.map (fun k => (k.1, k.2.map CI.g)) = kk.map (fun k => (k.1, k.2.cps.toList)) → (flatG gs).length = sizes kk
  | [], [], _ => rfl
  | [], _ :: _, h => by simp at h
  | _ :: _, [], h => by simp at h
  | k :: gs, k' :: kk, h => by
    simp only [List.map_cons, List.cons.injEq, Prod.mk.injEq] at h
    have h1 := congrArg List.length h.1.2
    have h2 := flat_len gs kk h.2
    unfold sizes at h2 ⊢
    simp only [List.length_map, Array.length_toList] at h1
    simp only [flatG, List.flatMap_cons, List.length_append, List.map_cons, List.sum_cons] at h2 ⊢
    omega
theorem sizes_take : ∀ (ks : List (Str × Str)) (i : Nat) (k : Str × Str), ks[i]? = some k → sizes (ks.take i) + k.2.cps.size ≤ sizes ks
  | [], i, k, h => by simp at h
  | a :: ks, 0, k, h => by
    simp at h; subst h
    simp [sizes]
  | a :: ks, i + 1, k, h => by
    have := sizes_take ks i k (by simpa using h)
    simp only [sizes, List.take_succ_cons, List.map_cons, List.sum_cons] at this ⊢
    omega
theorem law_s5 {w : World} {mean : ExcName → Option Value} {mg mb : Str → Option Value} {rest : List (Addr × Obj)} {dp un : Nat} {gd : Option (List Code)} {L fa : Addr} {outer : List Env} {A₀ : Around} {base h₀ : Heap} {m : Str → Option Value} {s : Shared} {E : Value → Shared → Prop} {Q : Flow → Shared → Prop} (B : Below A₀ base outer h₀) (X : (hd.heap_39 w.params).In h₀) (T : Top view loose mean mg mb h₀) (hdp : dp + 30 < recursionLimit) (hun : un + 300 < cLine) (F : Fr h₀ L s.heap m) {C U P : Addr} {nC nU nP : Nat} {ts : List (Addr × Obj)} {ks : List (Str × Str)} (hCU : @Ne Nat C U) (hoff : OwnOff rest [C, U]) (N : News h₀ L s.heap ((C, PySem.W.listOf ([] : List Value).toArray nC) :: (U, PySem.W.listOf ([] : List Value).toArray nU) :: rest)) (hPm : (P, PySem.W.listOf (refs ts).toArray nP) ∈ rest) (hts : Pairs ts ks) (hsub : ∀ p ∈ ts, p ∈ rest) (hne : ∀ k ∈ ks, k.2.cps.size ≠ 0) (hsz : sizes ks ≤ 900) (hkl : ks.length ≤ 90) {t1 t2 : Tok}
    (hP : m (Str.ofString "pieces") = some (.ref P)) (hC : m (Str.ofString "chars") = some (.ref C)) (hU : m (Str.ofString "due") = some (.ref U)) (hr : m (Str.ofString "row") = some (.int 1 t1)) (hc : m (Str.ofString "column") = some (.int 1 t2))
    (h : ∀ h' tk' m' us gs nC' nU' g, (∀ y, y ≠ Str.ofString "kind" → y ≠ Str.ofString "text" → y ≠ Str.ofString "sign" → y ≠ Str.ofString "row" → y ≠ Str.ofString "column" → m' y = m y) → Fr h₀ L h' m' → News h₀ L h' ((C, PySem.W.listOf (crefs (flatG gs)).toArray nC') :: (U, PySem.W.listOf (refs us).toArray nU') :: (g ++ rest)) → Adds rest (g ++ rest) → OwnOff g [C, U] →
      Dues us gs → (∀ p ∈ us, p ∈ g) → (∀ z ∈ flatG gs, CharIn g z.c z.g z.lo ∧ LocIn g z.lo z.row z.col) → (flatG gs).Pairwise (fun a b => @LT.lt Nat _ a.c b.c) → gs.map (fun k => (k.1, k.2.map CI.g)) = ks.map (fun k => (k.1, k.2.cps.toList)) → Q .next { s with heap := h', toks := tk' }) : wpAny (model PySem.Challenge.pw_rk0008_01 w) (lawA dp un gd L fa outer) (exec (lawSt 5) (lawEnv L fa)) Q E s := by
  change wpAny _ _ (exec (.For (.Tuple dueElts _ _) (.Name (Str.ofString "pieces") _) dueBody [] _) (lawEnv L fa)) Q E s
  refine wpAny_For (nameX_L F hP ?_ (by rfl) (by rfl))
  refine for_listT (ax := P) (its := (refs ts).toArray) (k := nP) rfl (fun v hv => by obtain ⟨a, _, rfl⟩ := (by simpa using hv : ∃ a, (∃ x, (a, x) ∈ ts) ∧ Value.ref a = v); exact ⟨_, rfl⟩) F N (.tail _ (.tail _ hPm)) (fun i m' nw => ∃ us gs nC' nU' g row col t1 t2, (∀ y, y ≠ Str.ofString "kind" → y ≠ Str.ofString "text" → y ≠ Str.ofString "sign" → y ≠ Str.ofString "row" → y ≠ Str.ofString "column" → m' y = m y) ∧ m' (Str.ofString "row") = some (.int row t1) ∧ m' (Str.ofString "column") = some (.int col t2) ∧ nw = (C, PySem.W.listOf (crefs (flatG gs)).toArray nC') :: (U, PySem.W.listOf (refs us).toArray nU') :: (g ++ rest) ∧ Adds rest (g ++ rest) ∧ OwnOff g [C, U] ∧
      Dues us gs ∧ (∀ p ∈ us, p ∈ g) ∧ (∀ z ∈ flatG gs, CharIn g z.c z.g z.lo ∧ LocIn g z.lo z.row z.col) ∧ (flatG gs).Pairwise (fun a b => @LT.lt Nat _ a.c b.c) ∧ gs.map (fun k => (k.1, k.2.map CI.g)) = (ks.take i).map (fun k => (k.1, k.2.cps.toList)))
    ⟨[], [], nC, nU, [], 1, 1, t1, t2, (fun _ _ _ _ _ _ => rfl), hr, hc, rfl, .refl _, (fun _ h => nomatch h), .nil, (fun _ h => nomatch h), (fun _ h => nomatch h), .nil, rfl⟩ ?_ ?_
  · intro I i v m₁ nw h2 tk2 oI E' hI hi hv P912
    refine hideG fun H9 k9 => ?_
    obtain ⟨us, gs, nC', nU', g, row, col, t1', t2', hkeep, hr', hc', rfl, ha, ho, hdu, hus, hch, hpw, hmp⟩ := P912
    refine k9 ?_
    clear k9
    intro hPn F2 N2 hnI hIt
    obtain ⟨p, hp, rfl⟩ : ∃ p, ts[i]? = some p ∧ v = .ref p.1 := by
      have hv' : (refs ts)[i]? = some v := by simpa using hv
      rw [List.getElem?_map] at hv'
      cases e : ts[i]? with
      | none => rw [e] at hv'; cases hv'
      | some p => rw [e] at hv'; exact ⟨p, rfl, (Option.some.inj hv').symm⟩
    refine hideG fun H9 k9 => ?_
    obtain ⟨kd, x, u1, u2, hpe, hk⟩ := hts.get hp
    refine k9 ?_
    clear k9
    have hpm : (p.1, pairO kd x u1 u2) ∈ rest := hpe ▸ hsub p (List.mem_of_getElem? hp)
    refine due_assign B X T hdp hun F2 N2 (.tail _ (.tail _ (.tail _ (List.mem_append_right _ hpm)))) fun h3 tk3 F3 N3 => ?_
    have hCI := hnI _ (.head _)
    have hUI := hnI _ (.tail _ (.head _))
    have hul : us.length ≤ 90 := by
      rw [hdu.length]
      have := congrArg List.length hmp
      simp at this; rw [this]; exact Nat.le_trans (Nat.min_le_right _ _) hkl
    have N3' : News h₀ L h3 ((U, PySem.W.listOf (refs us).toArray nU') :: (I, oI) :: (C, PySem.W.listOf (crefs (flatG gs)).toArray nC') :: (g ++ rest)) := fun p hp => N3 p (by
      simp only [List.mem_cons] at hp ⊢
      rcases hp with hp | hp | hp | hp <;> first | ((repeat (first | exact hp | exact Or.inl hp | exact Or.inr hp | exact Or.inl (Or.inl hp) | exact Or.inl (Or.inr hp) | exact Or.inl (Or.inr (Or.inl hp)) | exact Or.inl (Or.inr (Or.inr hp)) | apply Or.inr)); done) | simp [hp])
    have hoffU : OwnOff ((I, oI) :: (C, PySem.W.listOf (crefs (flatG gs)).toArray nC') :: (g ++ rest)) [U] := own_cons (by simpa using Ne.symm hUI) (own_cons (by simpa using hCU) (own_app (own_sub ho (fun _ h => h) (by simp)) (own_sub hoff (fun _ h => h) (by simp))))
    change wpAny _ _ (execs (dueSt 0 :: dueSt 1 :: []) _) _ _ _
    refine execs_cut (due_s0 B X T hdp hun F3 (vs := refs us) (by simp; omega) hoffU N3' (kd := kd) (x := x) (row := row) (col := col) ((if_neg (by decide)).trans ((if_neg (by decide)).trans ((hkeep _ (by decide) (by decide) (by decide) (by decide) (by decide)).trans hU))) ((if_neg (by decide)).trans (if_pos rfl)) (if_pos rfl) ((if_neg (by decide)).trans ((if_neg (by decide)).trans hr')) ((if_neg (by decide)).trans ((if_neg (by decide)).trans hc')) fun h4 tk4 d v1 v2 v3 v4 nU4 F4 N4 hd4 hUd => ⟨rfl, ?_⟩)
    have hd5 := ktn_ltOf hd4
    have hCd := hd5 _ (.tail _ (.head _))
    have N4' : News h₀ L h4 ((C, PySem.W.listOf (crefs (flatG gs)).toArray nC') :: (d, quad kd x row col v1 v2 v3 v4) :: (U, PySem.W.listOf (refs us ++ [Value.ref d]).toArray nU4) :: (I, oI) :: (g ++ rest)) := fun p hp => N4 p (by
      simp only [List.mem_cons] at hp ⊢
      rcases hp with hp | hp | hp | hp | hp <;> first | ((repeat (first | exact hp | exact Or.inl hp | exact Or.inr hp | exact Or.inl (Or.inl hp) | exact Or.inl (Or.inr hp) | exact Or.inl (Or.inr (Or.inl hp)) | exact Or.inl (Or.inr (Or.inr hp)) | apply Or.inr)); done) | simp [hp])
    have hoffC : OwnOff ((d, quad kd x row col v1 v2 v3 v4) :: (U, PySem.W.listOf (refs us ++ [Value.ref d]).toArray nU4) :: (I, oI) :: (g ++ rest)) [C] := own_cons (by simpa using (Nat.ne_of_lt hCd).symm) (own_cons (by simpa using Ne.symm hCU) (own_cons (by simpa using Ne.symm hCI) (own_app (own_sub ho (fun _ h => h) (by simp)) (own_sub hoff (fun _ h => h) (by simp)))))
    have hfl := flat_len gs (ks.take i) hmp
    have hst := sizes_take ks i (kd, x) hk
    refine execs_cut (in_loop B X T hdp hun F4 (x := x) (vs := crefs (flatG gs)) (by rw [List.length_map, hfl]; simp only at hst; omega) hoffC N4' ((if_neg (by decide)).trans ((if_neg (by decide)).trans ((hkeep _ (by decide) (by decide) (by decide) (by decide) (by decide)).trans hC))) (if_pos rfl) ((if_neg (by decide)).trans ((if_neg (by decide)).trans hr')) ((if_neg (by decide)).trans ((if_neg (by decide)).trans hc')) fun h5 tk5 m5 l g5 nC5 row5 col5 w1 w2 hlg hfi hkeep5 hr5 hc5 F5 N5 a5 o5 hch5 hpw5 => ⟨rfl, execs_end ?_⟩)
    have h5g := a5.gap
    have h0 := ha.gap
    have hln : l ≠ [] := fun e => by
      rw [e] at hlg
      have := hne _ (List.mem_of_getElem? hk)
      simp only at this
      exact this (by have := congrArg List.length hlg; simpa using this.symm)
    have eg : gs.map (fun k => (k.1, k.2.map CI.g)) ++ [(kd, l.map CI.g)] = (ks.take (i + 1)).map (fun k => (k.1, k.2.cps.toList)) := by
      rw [hmp, hlg, List.take_add_one, hk, List.map_append]; rfl
    have hIn : ∀ p ∈ g5 ++ (d, quad kd x row col v1 v2 v3 v4) :: g, p.1 ≠ I := fun p hp => by
      simp only [List.mem_append, List.mem_cons] at hp
      rcases hp with hp | rfl | hp
      · exact (h5g p hp (I, oI) (.tail _ (.tail _ (.head _)))).symm
      · exact (Nat.ne_of_lt (hd5 (I, oI) (.head _))).symm
      · exact hnI p (.tail _ (.tail _ (List.mem_append_left _ hp)))
    have hnew : ∀ p ∈ g5 ++ (d, quad kd x row col v1 v2 v3 v4) :: g, ∀ q ∈ rest, @Ne Nat q.1 p.1 := fun p hp q hq => by
      simp only [List.mem_append, List.mem_cons] at hp
      rcases hp with hp | rfl | hp
      · exact h5g p hp q (.tail _ (.tail _ (.tail _ (List.mem_append_right _ hq))))
      · exact Nat.ne_of_lt (hd5 q (.tail _ (.tail _ (List.mem_append_right _ hq))))
      · exact h0 p hp q hq
    have hoC : OwnOff (g5 ++ (d, quad kd x row col v1 v2 v3 v4) :: g) [C, U] := own_app (fun p hp c hc => by
      simp only [List.mem_cons, List.not_mem_nil, or_false] at hc
      rcases hc with rfl | rfl
      · exact o5 p hp _ (by simp)
      · exact (h5g p hp _ (.tail _ (.head _))).symm) (own_cons (fun c hc => by
        simp only [List.mem_cons, List.not_mem_nil, or_false] at hc
        rcases hc with rfl | rfl
        · exact (Nat.ne_of_lt hCd).symm
        · exact (Nat.ne_of_lt hUd).symm) ho)
    have e1 : crefs (flatG gs) ++ crefs l = crefs (flatG (gs ++ [(kd, l)])) := by simp [flatG]
    have e2 : refs us ++ [Value.ref d] = refs (us ++ [(d, quad kd x row col v1 v2 v3 v4)]) := by simp [refs]
    rw [e1, e2] at N5
    have Nf : News h₀ L h5 ((I, oI) :: (C, PySem.W.listOf (crefs (flatG (gs ++ [(kd, l)]))).toArray nC5) :: (U, PySem.W.listOf (refs (us ++ [(d, quad kd x row col v1 v2 v3 v4)])).toArray nU4) :: ((g5 ++ (d, quad kd x row col v1 v2 v3 v4) :: g) ++ rest)) := fun p hp => N5 p (by
      simp only [List.mem_cons, List.mem_append] at hp ⊢
      rcases hp with hp | hp | hp | (hp | hp | hp) | hp <;> first | ((repeat (first | exact hp | exact Or.inl hp | exact Or.inr hp | exact Or.inl (Or.inl hp) | exact Or.inl (Or.inr hp) | exact Or.inl (Or.inr (Or.inl hp)) | exact Or.inl (Or.inr (Or.inr hp)) | apply Or.inr)); done) | simp [hp])
    refine ⟨rfl, h5, tk5, m5, _, rfl, F5, Nf, fun p hp => ?_, .tail _ (.tail _ (List.mem_append_right _ hPm)), us ++ [(d, quad kd x row col v1 v2 v3 v4)], gs ++ [(kd, l)], nC5, nU4, g5 ++ (d, quad kd x row col v1 v2 v3 v4) :: g, row5, col5, w1, w2, fun y a b c e f => (hkeep5 y c e f).trans ((if_neg b).trans ((if_neg a).trans (hkeep y a b c e f))), hr5, hc5, rfl, ⟨_, rfl, hnew⟩, hoC, .snoc hdu hln hfi hlg, fun p hp => ?_, fun z hz => ?_, ?_, ?_⟩
    · rcases List.mem_cons.mp hp with rfl | hp
      · exact hCI
      · rcases List.mem_cons.mp hp with rfl | hp
        · exact hUI
        · rcases List.mem_append.mp hp with hp | hp
          · exact hIn p hp
          · exact hnI p (.tail _ (.tail _ (List.mem_append_right _ hp)))
    · rcases List.mem_append.mp hp with hp | hp
      · exact List.mem_append_right _ (.tail _ (hus p hp))
      · rw [List.mem_singleton.mp hp]; exact List.mem_append_right _ (.head _)
    · have hz' : z ∈ flatG gs ∨ z ∈ l := by simpa [flatG] using hz
      rcases hz' with hz | hz
      · obtain ⟨k1, k2⟩ := hch z hz
        exact ⟨k1.sub7 fun p hp => List.mem_append_right _ (.tail _ hp), k2.sub7 fun p hp => List.mem_append_right _ (.tail _ hp)⟩
      · obtain ⟨k1, k2, _⟩ := hch5 z hz
        exact ⟨k1.sub7 fun p hp => List.mem_append_left _ hp, k2.sub7 fun p hp => List.mem_append_left _ hp⟩
    · have e3 : flatG (gs ++ [(kd, l)]) = flatG gs ++ l := by simp [flatG]
      rw [e3]
      refine List.pairwise_append.mpr ⟨hpw, hpw5, fun a ha' b hb => ?_⟩
      obtain ⟨⟨dc, _, _, _, _, _, _, k1, _⟩, _⟩ := hch a ha'
      exact ktn_ltOf (hch5 b hb).2.2 _ (.tail _ (.tail _ (.tail _ (List.mem_append_left _ k1))))
    · rw [List.map_append, ← eg]; rfl
  · intro m₁ nw h2 tk2 P94
    refine hideG fun H9 k9 => ?_
    obtain ⟨us, gs, nC', nU', g, row, col, t1', t2', hkeep, hr', hc', rfl, ha, ho, hdu, hus, hch, hpw, hmp⟩ := P94
    refine k9 ?_
    clear k9
    intro hPn F2 N2
    have e : ks.take (refs ts).toArray.size = ks := List.take_of_length_le (by simp [hts.length])
    rw [e] at hmp
    exact h _ _ _ _ _ _ _ _ hkeep F2 N2 ha ho hdu hus hch hpw hmp
end
section
open PySem PySem.W PyProof.Rows PySem.Calls
set_option maxRecDepth 100000
set_option maxHeartbeats 400000


theorem news_more {h₀ h : Heap} {L : Addr} {l l' : List (Addr × Obj)} (N : News h₀ L h l) (s : ∀ p ∈ l', p ∈ l) : News h₀ L h l' := fun p hp => N p (s p hp)
theorem copt_ok {w : World} {mean : ExcName → Option Value} {mg mb : Str → Option Value} {rest : List (Addr × Obj)} : CallOk w mean mg mb 458 [] rest (fun v l' => ∃ x g, v = .ref x ∧ l' = g ++ rest ∧ ∀ p ∈ g, ∀ q ∈ rest, @LT.lt Nat _ q.1 p.1) 20 200 := by
  intro dp un gd cn csn csg csc csm a ccd cl9 outer A₀ base h₀ L m s Q E B F X N T hd hu hret
  walk1
  k_steps
  rename Fr _ _ _ _ => F8
  rename News _ _ _ _ => N8
  refine hret _ _ _ _ ⟨_, [_, _, _, _, _, _], rfl, rfl, fun p hp q hq => ?_⟩ F8 N8
  have hq9 : @LT.lt Nat _ q.1 _ := hRest9 q hq
  refine Nat.lt_of_lt_of_le hq9 ?_
  clear F8 N8 hq9 hq
  simp only [List.mem_cons, List.not_mem_nil, or_false] at hp
  rcases hp with rfl | rfl | rfl | rfl | rfl | rfl
  all_goals (dsimp only; first | exact Nat.le_refl _ | exact Nat.le_of_lt (by assumption) | exact Nat.le_of_lt (And.left (by assumption)) | exact Nat.le_of_lt (And.left (And.right (by assumption))) | exact Nat.le_of_lt (And.left (And.right (And.right (by assumption)))) | exact Nat.le_of_lt (And.left (And.right (And.right (And.right (by assumption))))) | exact Nat.le_of_lt (And.left (And.right (And.right (And.right (And.right (by assumption)))))) | exact Nat.le_of_lt (And.left (And.right (And.right (And.right (And.right (And.right (by assumption))))))) | omega)
/-- the objects of a new lexer -/
noncomputable abbrev clexHead (x dx tb pb ct : Addr) (h1 h2 h3 h4 : Int) (t1 t2 t3 t4 : Tok) (co : Value) : List (Addr × Obj) := [(x, instObj 390 dx), (dx, dictOf [⟨h1, .str (Str.ofString "token_buffer") t1, .ref tb⟩, ⟨h2, .str (Str.ofString "pushed_back") t2, .ref pb⟩, ⟨h3, .str (Str.ofString "current_text") t3, .ref ct⟩, ⟨h4, .str (Str.ofString "coptions") t4, co⟩] 4), (tb, PySem.W.listOf ([] : List Value).toArray 0), (pb, PySem.W.listOf ([] : List Value).toArray 0), (ct, PySem.W.listOf ([] : List Value).toArray 0)]
theorem clex_news {h₀ h : Heap} {L : Addr} {ct pb tb q so x dx : Addr} {o1 o2 o3 o4 o5 o6 o7 : Obj} {rest : List (Addr × Obj)} (N : News h₀ L h ((ct, o1) :: (pb, o2) :: (tb, o3) :: (q, o4) :: (so, o5) :: (x, o6) :: (dx, o7) :: rest)) :
    News h₀ L h ([(x, o6), (dx, o7), (tb, o3), (pb, o2), (ct, o1)] ++ ([(q, o4), (so, o5)] ++ rest)) := fun p hp => N p (by
  simp only [List.mem_cons, List.cons_append, List.nil_append] at hp ⊢
  rcases hp with hp | hp | hp | hp | hp | hp | hp | hp
  · exact .inr (.inr (.inr (.inr (.inr (.inl hp)))))
  · exact .inr (.inr (.inr (.inr (.inr (.inr (.inl hp))))))
  · exact .inr (.inr (.inl hp))
  · exact .inr (.inl hp)
  · exact .inl hp
  · exact .inr (.inr (.inr (.inl hp)))
  · exact .inr (.inr (.inr (.inr (.inl hp))))
  · exact .inr (.inr (.inr (.inr (.inr (.inr (.inr hp)))))))
theorem clex_ok {w : World} {mean : ExcName → Option Value} {mg mb : Str → Option Value} {rest : List (Addr × Obj)} {co : Addr} : CallOk w mean mg mb 390 [.ref co] rest (fun v l' => ∃ x dx tb pb ct h1 h2 h3 h4 t1 t2 t3 t4 g, v = .ref x ∧ l' = clexHead x dx tb pb ct h1 h2 h3 h4 t1 t2 t3 t4 (.ref co) ++ (g ++ rest) ∧ (∀ q ∈ rest, @LT.lt Nat _ q.1 dx) ∧ @LT.lt Nat _ dx x ∧ @LT.lt Nat _ x tb ∧ @LT.lt Nat _ tb pb ∧ @LT.lt Nat _ pb ct ∧ (∀ p ∈ g, @LT.lt Nat _ dx p.1) ∧ OwnOff g [dx, x, tb, pb, ct]) 30 300 := by
  intro dp un gd cn csn csg csc csm a ccd cl9 outer A₀ base h₀ L m s Q E B F X N T hd hu hret
  walk1
  k_steps
  rename Fr _ _ _ _ => F8
  rename News _ _ _ _ => N8
  rename @LT.lt Nat _ _ _ ∧ @LT.lt Nat _ _ _ ∧ @LT.lt Nat _ _ _ ∧ @LT.lt Nat _ _ _ ∧ @LT.lt Nat _ _ _ ∧ @LT.lt Nat _ _ _ ∧ _ => l6
  rename @LT.lt Nat _ _ _ ∧ @LT.lt Nat _ _ _ ∧ @LT.lt Nat _ _ _ ∧ @LT.lt Nat _ _ _ ∧ @LT.lt Nat _ _ _ ∧ AllLt _ _ => l5
  rename @LT.lt Nat _ _ _ ∧ @LT.lt Nat _ _ _ ∧ @LT.lt Nat _ _ _ ∧ @LT.lt Nat _ _ _ ∧ AllLt _ _ => l4
  rename @LT.lt Nat _ _ _ ∧ @LT.lt Nat _ _ _ ∧ @LT.lt Nat _ _ _ ∧ AllLt _ _ => l3
  rename @LT.lt Nat _ _ _ ∧ @LT.lt Nat _ _ _ ∧ AllLt _ _ => l2
  rename @LT.lt Nat _ _ _ => l1
  refine hret _ _ _ _ ⟨_, _, _, _, _, _, _, _, _, _, _, _, _, [_, _], rfl, rfl, hRest9, l1, l4.2.2.1, l5.1, l6.1, ?_, ?_⟩ F8 (clex_news N8)
  · intro p hp
    rcases List.mem_cons.mp hp with rfl | hp
    · exact l3.2.2.1
    · rw [List.mem_singleton.mp hp]; exact l2.2.1
  · intro p hp c hc
    simp only [List.mem_cons, List.not_mem_nil, or_false] at hc
    rcases List.mem_cons.mp hp with rfl | hp
    · rcases hc with rfl | rfl | rfl | rfl | rfl
      · exact (Nat.ne_of_lt l3.2.2.1).symm
      · exact (Nat.ne_of_lt l3.2.1).symm
      · exact Nat.ne_of_lt l4.1
      · exact Nat.ne_of_lt l5.2.1
      · exact Nat.ne_of_lt l6.2.2.1
    · rw [List.mem_singleton.mp hp]
      rcases hc with rfl | rfl | rfl | rfl | rfl
      · exact (Nat.ne_of_lt l2.2.1).symm
      · exact (Nat.ne_of_lt l2.1).symm
      · exact Nat.ne_of_lt l4.2.1
      · exact Nat.ne_of_lt l5.2.2.1
      · exact Nat.ne_of_lt l6.2.2.2.1
/-- the same with a cell ahead -/
theorem copt_led {w : World} {mean : ExcName → Option Value} {mg mb : Str → Option Value} {rest : List (Addr × Obj)} {P : Addr} {oP : Obj} (hoff : OwnOff rest [P]) : CallOk w mean mg mb 458 [] ((P, oP) :: rest) (fun v l' => ∃ x g, v = .ref x ∧ l' = (P, oP) :: (g ++ rest) ∧ ∀ p ∈ g, ∀ q ∈ (P, oP) :: rest, @LT.lt Nat _ q.1 p.1) 20 200 := by
  intro dp un gd cn csn csg csc csm a ccd cl9 outer A₀ base h₀ L m s Q E B F X N T hd hu hret
  refine copt_ok _ _ _ _ _ _ _ _ _ _ _ _ _ _ _ _ _ _ _ _ B F X N T hd hu ?_
  rintro v l' h' tk' ⟨x, g, rfl, rfl, hg⟩ F' N'
  exact hret _ _ _ _ ⟨x, g, rfl, rfl, hg⟩ F' (news_under (hd := [(P, oP)]) (g := g) (r := rest) N')
theorem clex_led {w : World} {mean : ExcName → Option Value} {mg mb : Str → Option Value} {rest : List (Addr × Obj)} {P : Addr} {oP : Obj} {co : Addr} (hoff : OwnOff rest [P]) : CallOk w mean mg mb 390 [.ref co] ((P, oP) :: rest) (fun v l' => ∃ x dx tb pb ct h1 h2 h3 h4 t1 t2 t3 t4 g, v = .ref x ∧ l' = (P, oP) :: (clexHead x dx tb pb ct h1 h2 h3 h4 t1 t2 t3 t4 (.ref co) ++ (g ++ rest)) ∧ (∀ q ∈ (P, oP) :: rest, @LT.lt Nat _ q.1 dx) ∧ @LT.lt Nat _ dx x ∧ @LT.lt Nat _ x tb ∧ @LT.lt Nat _ tb pb ∧ @LT.lt Nat _ pb ct ∧ (∀ p ∈ g, @LT.lt Nat _ dx p.1) ∧ OwnOff g [dx, x, tb, pb, ct]) 30 300 := by
  intro dp un gd cn csn csg csc csm a ccd cl9 outer A₀ base h₀ L m s Q E B F X N T hd hu hret
  refine clex_ok _ _ _ _ _ _ _ _ _ _ _ _ _ _ _ _ _ _ _ _ B F X N T hd hu ?_
  rintro v l' h' tk' ⟨x, dx, tb, pb, ct, h1, h2, h3, h4, t1, t2, t3, t4, g, rfl, rfl, q⟩ F' N'
  refine hret _ _ _ _ ⟨x, dx, tb, pb, ct, h1, h2, h3, h4, t1, t2, t3, t4, g, rfl, rfl, q⟩ F' fun p hp => N' p ?_
  simp only [List.mem_cons, List.mem_append] at hp ⊢
  rcases hp with hp | hp | hp | hp
  · exact .inr (.inr (.inl hp))
  · exact .inl hp
  · exact .inr (.inl hp)
  · exact .inr (.inr (.inr hp))
theorem led_off {P : Addr} {oP : Obj} {g rest r : List (Addr × Obj)} (hg : ∀ p ∈ g, ∀ q ∈ (P, oP) :: rest, @LT.lt Nat _ q.1 p.1) (hoff : OwnOff rest [P]) (e : r = g ++ rest) : OwnOff r [P] := e ▸ own_app (fun p hp c hc => by rw [List.mem_singleton.mp hc]; exact (Nat.ne_of_lt (hg p hp _ (.head _))).symm) hoff
theorem clex_off {P : Addr} {oP : Obj} {x dx tb pb ct : Addr} {h1 h2 h3 h4 : Int} {t1 t2 t3 t4 : Tok} {co : Value} {g rest r : List (Addr × Obj)} (hoff : OwnOff rest [P]) (q1 : ∀ q ∈ (P, oP) :: rest, @LT.lt Nat _ q.1 dx) (q2 : @LT.lt Nat _ dx x) (q3 : @LT.lt Nat _ x tb) (q4 : @LT.lt Nat _ tb pb) (q5 : @LT.lt Nat _ pb ct) (q6 : ∀ p ∈ g, @LT.lt Nat _ dx p.1) (e : r = clexHead x dx tb pb ct h1 h2 h3 h4 t1 t2 t3 t4 co ++ (g ++ rest)) : OwnOff r [P] := by
  have k0 : @LT.lt Nat _ P dx := q1 _ (.head _)
  have k1 := Nat.lt_trans k0 q2
  have k2 := Nat.lt_trans k1 q3
  have k3 := Nat.lt_trans k2 q4
  have k4 := Nat.lt_trans k3 q5
  have ne : ∀ {d : Addr}, @LT.lt Nat _ P d → ∀ c ∈ [P], @Ne Nat d c := fun h c hc => by rw [List.mem_singleton.mp hc]; exact (Nat.ne_of_lt h).symm
  rw [e]
  exact own_cons (ne k1) (own_cons (ne k0) (own_cons (ne k2) (own_cons (ne k3) (own_cons (ne k4) (show OwnOff (g ++ rest) [P] from own_app (fun p hp => ne (Nat.lt_trans k0 (q6 p hp))) hoff)))))

theorem law_s6 {w : World} {mean : ExcName → Option Value} {mg mb : Str → Option Value} {rest : List (Addr × Obj)} {dp un : Nat} {gd : Option (List Code)} {L fa : Addr} {outer : List Env} {A₀ : Around} {base h₀ : Heap} {m : Str → Option Value} {s : Shared} {E : Value → Shared → Prop} {Q : Flow → Shared → Prop} (B : Below A₀ base outer h₀) (X : (hd.heap_39 w.params).In h₀) (T : Top view loose mean mg mb h₀) (hdp : dp + 30 < recursionLimit) (hun : un + 300 < cLine) (F : Fr h₀ L s.heap m) {o1 : Obj} (hd1 : o1.data = .cell none) (hoff : OwnOff rest [L + 1]) (N : News h₀ L s.heap ((L + 1, o1) :: rest))
    (h : ∀ h' tk' x dx tb pb ct h1 h2 h3 h4 t1 t2 t3 t4 co o1' g, Fr h₀ L h' m → News h₀ L h' ((x, instObj 390 dx) :: (dx, dictOf [⟨h1, .str (Str.ofString "token_buffer") t1, .ref tb⟩, ⟨h2, .str (Str.ofString "pushed_back") t2, .ref pb⟩, ⟨h3, .str (Str.ofString "current_text") t3, .ref ct⟩, ⟨h4, .str (Str.ofString "coptions") t4, co⟩] 4) :: (tb, PySem.W.listOf ([] : List Value).toArray 0) :: (pb, PySem.W.listOf ([] : List Value).toArray 0) :: (ct, PySem.W.listOf ([] : List Value).toArray 0) :: (L + 1, o1') :: (g ++ rest)) →
      o1'.data = .cell (some (.ref x)) → @LT.lt Nat _ (L + 1) dx → @LT.lt Nat _ dx x → @LT.lt Nat _ x tb → @LT.lt Nat _ tb pb → @LT.lt Nat _ pb ct → (∀ q ∈ rest, @LT.lt Nat _ q.1 dx) → Q .next { s with heap := h', toks := tk' }) : wpAny (model PySem.Challenge.pw_rk0008_01 w) (lawA dp un gd L fa outer) (exec (lawSt 6) (lawEnv L fa)) Q E s := by
  have eL : lawDefn = lawDefn := rfl
  conv at eL => rhs; whnf
  have eU : lawSt 6 = lawSt 6 := rfl
  conv at eU => rhs; whnf
  rw [eU]
  unfold lawA lawEnv
  rw [eL]
  dsimp only
  walk1
  (repeat' (first | ((k_here; (with_reducible show wpAny _ _ (call (Value.ref _) _) _ _ _); k_dflt (refine' CallOk.use (clex_led ?o) ?B ?F ?X ?N ?T ?d ?u ?_; (case N => k_asm); (case F => k_asm); (case B => k_asm); (case X => k_asm); (case T => k_asm); (case o => assumption); (case d => ktr_room); (case u => ktr_units); k_whole); intro v9 l9 h9 tk9 P9 F9 N9; obtain ⟨x, dx, tb, pb, ct, h1, h2, h3, h4, t1, t2, t3, t4, g9, e9, e9b, q1, q2, q3, q4, q5, q6, q7⟩ := P9; subst e9; subst e9b; obtain ⟨rest7, e0⟩ : ∃ r, r = rest := ⟨_, rfl⟩; subst e0; obtain ⟨rest, er9⟩ : ∃ r, r = clexHead x dx tb pb ct h1 h2 h3 h4 t1 t2 t3 t4 (.ref x8) ++ (g9 ++ rest7) := ⟨_, rfl⟩; rw [← er9] at N9; (have hoff9 := clex_off hoff8 q1 q2 q3 q4 q5 q6 er9); (try dsimp only))) | ((k_here; (with_reducible show wpAny _ _ (call (Value.ref _) _) _ _ _); k_dflt (refine' CallOk.use (copt_led ?o) ?B ?F ?X ?N ?T ?d ?u ?_; (case N => k_asm); (case F => k_asm); (case B => k_asm); (case X => k_asm); (case T => k_asm); (case o => assumption); (case d => ktr_room); (case u => ktr_units); k_whole); intro v9 l9 h9 tk9 P9 F9 N9; obtain ⟨x8, g8, e9, e9b, hg8⟩ := P9; subst e9; subst e9b; obtain ⟨rest0, e0⟩ : ∃ r, r = rest := ⟨_, rfl⟩; obtain ⟨rest, er8⟩ : ∃ r, r = g8 ++ rest := ⟨_, rfl⟩; rw [← er8] at N9; (have hoff8 := led_off (P := L + 1) hg8 hoff er8); (try dsimp only))) | (k_unfold; (try dsimp only)) | (k_end; kc_close) | walk1 | (dsimp only; walk1) | (leave1; walk_say "STEP leave1"; (try dsimp only)) | fail "no step"))
  rename Fr _ _ _ _ => F8
  rename News _ _ _ _ => N8
  rename Obj.data _ = _ => hd8
  subst er9
  subst er8
  subst e0
  refine h _ _ x dx tb pb ct h1 h2 h3 h4 t1 t2 t3 t4 (.ref x8) _ (g9 ++ g8) F8 (news_more N8 fun p hp => ?_) hd8 (q1 _ (.head _)) q2 q3 q4 q5 (fun q hq => q1 q (.tail _ (List.mem_append_right _ hq)))
  simp only [List.mem_cons, List.mem_append, List.cons_append, List.nil_append, List.not_mem_nil, or_false] at hp ⊢
  rcases hp with hp | hp | hp | hp | hp | hp | (hp | hp) | hp <;> first | ((repeat (first | exact hp | exact Or.inl hp | exact Or.inr hp | exact Or.inl (Or.inl hp) | exact Or.inl (Or.inr hp) | exact Or.inl (Or.inr (Or.inl hp)) | exact Or.inl (Or.inr (Or.inr hp)) | apply Or.inr)); done) | simp [hp]

theorem news_defs {h₀ h : Heap} {L : Addr} {f1 c1 f0 c0 l2 l3 t : Addr} {of1 oc1 of0 oc0 o2 o3 ot : Obj} {rest : List (Addr × Obj)} (N : News h₀ L h ((f1, of1) :: (c1, oc1) :: (f0, of0) :: (c0, oc0) :: (l3, o3) :: (l2, o2) :: (t, ot) :: rest)) :
    News h₀ L h ((l3, o3) :: (l2, o2) :: (t, ot) :: ([(f1, of1), (c1, oc1), (f0, of0), (c0, oc0)] ++ rest)) := fun p hp => N p (by
  simp only [List.mem_cons, List.mem_append, List.cons_append, List.nil_append] at hp ⊢
  rcases hp with hp | hp | hp | hp | hp | hp | hp | hp <;> first | ((repeat (first | exact hp | exact Or.inl hp | exact Or.inr hp | exact Or.inl (Or.inl hp) | exact Or.inl (Or.inr hp) | exact Or.inl (Or.inr (Or.inl hp)) | exact Or.inl (Or.inr (Or.inr hp)) | apply Or.inr)); done) | simp [hp])
theorem qual_start {L fa : Addr} : qualnameIn (lawEnv L fa) (Str.ofString "start") (Str.ofString "start") = Str.ofString "law.<locals>.start" := by kernel_rfl
theorem qual_stop {L fa : Addr} : qualnameIn (lawEnv L fa) (Str.ofString "stop") (Str.ofString "stop") = Str.ofString "law.<locals>.stop" := by kernel_rfl
theorem law_s78 {w : World} {mean : ExcName → Option Value} {mg mb : Str → Option Value} {rest : List (Addr × Obj)} {dp un : Nat} {gd : Option (List Code)} {L fa : Addr} {outer : List Env} {A₀ : Around} {base h₀ : Heap} {m : Str → Option Value} {s : Shared} {E : Value → Shared → Prop} {Q : Flow → Shared → Prop} (B : Below A₀ base outer h₀) (X : (hd.heap_39 w.params).In h₀) (T : Top view loose mean mg mb h₀) (hdp : dp + 30 < recursionLimit) (hun : un + 300 < cLine) (F : Fr h₀ L s.heap m) {o2 o3 : Obj} (hL : @LT.lt Nat _ 499 L) (hd3 : o3.data = .cell none) (hd2 : o2.data = .cell none) (hoff : OwnOff rest [L + 1 + 1 + 1, L + 1 + 1, 497]) (N : News h₀ L s.heap ((L + 1 + 1 + 1, o3) :: (L + 1 + 1, o2) :: (497, tabObj #[]) :: rest))
    (h : ∀ h' tk' f0 f1 o2' o3' ps g, Fr h₀ L h' m → News h₀ L h' ((L + 1 + 1 + 1, o3') :: (L + 1 + 1, o2') :: (497, tabObj ps) :: (g ++ rest)) → o3'.data = .cell (some (.ref f0)) → o2'.data = .cell (some (.ref f1)) →
      (∃ c1 oc1 vs1 t1 doc pm ct, (f1, fnMade (Str.ofString "start") (Str.ofString "law.<locals>.start") startDef.1 startDef.2.1 startDef.2.2 [(Str.ofString "stop", L + 1 + 1 + 1), (Str.ofString "start", L + 1 + 1), (Str.ofString "lexer", L + 1)] doc pm c1 ct) ∈ g ∧ (c1, oc1) ∈ g ∧ oc1.data = .fields vs1 ∧ vs1[1]? = some (.str (Str.ofString "law.<locals>.start") t1)) →
      (∃ c1 oc1 vs1 t1 doc pm ct, (f0, fnMade (Str.ofString "stop") (Str.ofString "law.<locals>.stop") stopDef.1 stopDef.2.1 stopDef.2.2 [] doc pm c1 ct) ∈ g ∧ (c1, oc1) ∈ g ∧ oc1.data = .fields vs1 ∧ vs1[1]? = some (.str (Str.ofString "law.<locals>.stop") t1)) →
      (∀ p ∈ g, ∀ q ∈ rest, @LT.lt Nat _ q.1 p.1) → (∀ p ∈ g, @LT.lt Nat _ (L + 1 + 1 + 1) p.1) → Q .next { s with heap := h', toks := tk' }) : wpAny (model PySem.Challenge.pw_rk0008_01 w) (lawA dp un gd L fa outer) (execs (lawSt 7 :: lawSt 8 :: []) (lawEnv L fa)) Q E s := by
  have hchd := codeHd_of_K (c := 499) (P := 497) X (by kernel_rfl)
  have eL : lawDefn = lawDefn := rfl
  conv at eL => rhs; whnf
  have eU : lawSt 7 = lawSt 7 := rfl
  conv at eU => rhs; whnf
  rw [eU]
  have eU8 : lawSt 8 = lawSt 8 := rfl
  conv at eU8 => rhs; whnf
  rw [eU8]
  unfold lawA lawEnv
  rw [eL]
  dsimp only
  walk1
  k_steps
  rename Fr _ _ _ _ => F8
  rename News _ _ _ _ => N8
  have e1 := qual_start (L := L) (fa := fa)
  have e0 := qual_stop (L := L) (fa := fa)
  unfold lawEnv at e1 e0
  rw [eL] at e1 e0
  dsimp only at e1 e0
  simp only [e1, e0] at N8
  have N9 := news_defs N8
  refine h _ _ _ _ _ _ _ _ F8 N9 (by assumption) (by assumption) ⟨_, _, _, _, _, _, _, .head _, .tail _ (.head _), by assumption, by assumption⟩ ⟨_, _, _, _, _, _, _, .tail _ (.tail _ (.head _)), .tail _ (.tail _ (.tail _ (.head _))), by assumption, by assumption⟩ (fun p hp q hq => ?_) (fun p hp => ?_)
  · have hq9 : @LT.lt Nat _ q.1 _ := hRest9 q hq
    simp only [List.mem_cons, List.not_mem_nil, or_false] at hp
    rcases hp with rfl | rfl | rfl | rfl
    all_goals (dsimp only; first | exact hq9 | exact Nat.lt_trans hq9 (by assumption) | exact Nat.lt_trans hq9 (And.left (by assumption)) | exact Nat.lt_trans hq9 (And.left (And.right (by assumption))) | exact Nat.lt_trans hq9 (And.left (And.right (And.right (by assumption)))) | exact Nat.lt_trans hq9 (And.left (And.right (And.right (And.right (by assumption))))) | exact Nat.lt_trans (Nat.lt_trans hq9 (And.left (by assumption))) (by assumption) | exact Nat.lt_trans (Nat.lt_trans hq9 (And.left (And.right (by assumption)))) (by assumption) | exact Nat.lt_trans (Nat.lt_trans hq9 (And.left (And.right (And.right (by assumption))))) (by assumption) | omega)
  · simp only [List.mem_cons, List.not_mem_nil, or_false] at hp
    rcases hp with rfl | rfl | rfl | rfl
    all_goals (dsimp only; first | exact And.left (by assumption) | exact And.left (And.right (by assumption)) | exact And.left (And.right (And.right (by assumption))) | exact And.left (And.right (And.right (And.right (by assumption)))) | exact And.left (And.right (And.right (And.right (And.right (by assumption))))) | exact Nat.lt_trans (And.left (by assumption)) (by assumption) | exact Nat.lt_trans (And.left (And.right (by assumption))) (by assumption) | exact Nat.lt_trans (And.left (And.right (And.right (by assumption)))) (by assumption) | exact Nat.lt_trans (And.left (And.right (And.right (And.right (by assumption))))) (by assumption) | omega)
end
section
open PySem PySem.W PyProof.Rows PySem.Calls
set_option maxRecDepth 100000
set_option maxHeartbeats 400000


noncomputable abbrev Row := Str × Str × Int × Int
noncomputable abbrev rowD (r : Row) : PyData := .tuple [.str r.1, .str r.2.1, .int r.2.2.1, .int r.2.2.2]
/-- tuples of the ledger, row by row -/
inductive RowsAre : List (Addr × Obj) → List Row → Prop
  | nil : RowsAre [] []
  | cons {ts : List (Addr × Obj)} {rs : List Row} {d : Addr} {kd x : Str} {r c : Int} {u1 u2 u3 u4 : Tok} : RowsAre ts rs → RowsAre ((d, quad kd x r c u1 u2 u3 u4) :: ts) ((kd, x, r, c) :: rs)
theorem RowsAre.snoc {ts : List (Addr × Obj)} {rs : List Row} (h : RowsAre ts rs) {d : Addr} {kd x : Str} {r c : Int} {u1 u2 u3 u4 : Tok} : RowsAre (ts ++ [(d, quad kd x r c u1 u2 u3 u4)]) (rs ++ [(kd, x, r, c)]) := by
  induction h with
  | nil => exact .cons .nil
  | cons _ ih => exact .cons ih
theorem RowsAre.length {ts : List (Addr × Obj)} {rs : List Row} (h : RowsAre ts rs) : ts.length = rs.length := by
  induction h with
  | nil => rfl
  | cons _ ih => simp [ih]
theorem RowsAre.reads {h₀ h : Heap} {L : Addr} {news : List (Addr × Obj)} (N : News h₀ L h news) {ts : List (Addr × Obj)} {rs : List Row} (k : RowsAre ts rs) (s : ∀ p ∈ ts, p ∈ news) : ReadsAll h (refs ts) (rs.map rowD) [] := by
  induction k with
  | nil => exact .nil
  | cons _ ih => exact ReadsAll.cons (as := []) (Reads.tuple (N _ (s _ (.head _))).1 rfl rfl (ReadsAll.cons (as := []) (.str _ _) (ReadsAll.cons (as := []) (.str _ _) (ReadsAll.cons (as := []) (.int _ _) (ReadsAll.cons (as := []) (.int _ _) .nil))))) (ih fun p hp => s p (.tail _ hp))
noncomputable def RowsOk (rs : List Row) : Prop := ∀ r ∈ rs, PyData.strOk r.1 = true ∧ PyData.strOk r.2.1 = true
theorem rows_can : ∀ {rs : List Row}, RowsOk rs → PyData.canLayAll0 (rs.map rowD) = true
  | [], _ => rfl
  | r :: rs, h => by
    obtain ⟨h1, h2⟩ := h r (.head _)
    have ih := rows_can (rs := rs) fun q hq => h q (.tail _ hq)
    simp only [List.map_cons, PyData.canLayAll0, PyData.canLay0, h1, h2, ih, Bool.and_self]
theorem rows_depth : ∀ rs : List Row, PyData.depthAll (rs.map rowD) ≤ 1
  | [] => by simp [PyData.depthAll]
  | r :: rs => by
    have ih := rows_depth rs
    simp only [List.map_cons, PyData.depthAll, PyData.depth]
    exact Nat.max_le.mpr ⟨by decide, ih⟩
theorem rows_shaped {rs : List Row} (h : RowsOk rs) : SeqAt.shaped (.list (rs.map rowD)) = true := by
  have h1 := rows_depth rs
  have h2 : PyData.depth (.list (rs.map rowD)) ≤ 64 := by simp only [PyData.depth]; omega
  show (PyData.canLay0 (.list (rs.map rowD)) && decide (PyData.depth (.list (rs.map rowD)) ≤ 64)) = true
  rw [Bool.and_eq_true]
  exact ⟨by simp only [PyData.canLay0]; exact rows_can h, decide_eq_true h2⟩
theorem rows_eqv : ∀ rs : List Row, PyData.eqvAll (rs.map rowD) (rs.map rowD) = true
  | [] => rfl
  | r :: rs => by
    simp only [List.map_cons, PyData.eqvAll, PyData.eqv, rows_eqv rs, beq_self_eq_true, Bool.and_self]
theorem neL {prog : Program} {w : World} {A : Around} {E : Value → Shared → Prop} {s : Shared} {h₀ : Heap} {L D U : Addr} {news ts us : List (Addr × Obj)} {n k : Nat} {rs : List Row} {Q : Value → Shared → Prop} (N : News h₀ L s.heap news) (hD : (D, PySem.W.listOf (refs ts).toArray n) ∈ news) (hU : (U, PySem.W.listOf (refs us).toArray k) ∈ news) (ht : RowsAre ts rs) (hu : RowsAre us rs) (st : ∀ p ∈ ts, p ∈ news) (su : ∀ p ∈ us, p ∈ news) (ok : RowsOk rs) (hun : A.units + 64 < cLine)
    (h : Q (.bool false) s) : wpAny (model prog w) A (compareOp .NotEq (.ref D) (.ref U)) Q E s :=
  ne_dataH (Reads.list (N _ hD).1 rfl rfl (by simpa using ht.reads N st)) (Reads.list (N _ hU).1 rfl rfl (by simpa using hu.reads N su)) (rows_shaped ok) (rows_shaped ok) hun (by
    have e : PyData.eqv (.list (rs.map rowD)) (.list (rs.map rowD)) = true := by
      simp only [PyData.eqv]; exact rows_eqv rs
    rw [e]; exact h)
theorem law_s10 {w : World} {mean : ExcName → Option Value} {mg mb : Str → Option Value} {rest : List (Addr × Obj)} {dp un : Nat} {gd : Option (List Code)} {L fa : Addr} {outer : List Env} {A₀ : Around} {base h₀ : Heap} {m : Str → Option Value} {s : Shared} {E : Value → Shared → Prop} {Q : Flow → Shared → Prop} (B : Below A₀ base outer h₀) (X : (hd.heap_39 w.params).In h₀) (T : Top view loose mean mg mb h₀) (hdp : dp + 30 < recursionLimit) (hun : un + 300 < cLine) (F : Fr h₀ L s.heap m) {D U : Addr} {ts us : List (Addr × Obj)} {n k : Nat} {rs : List Row} (N : News h₀ L s.heap rest) (hD : (D, PySem.W.listOf (refs ts).toArray n) ∈ rest) (hU : (U, PySem.W.listOf (refs us).toArray k) ∈ rest) (ht : RowsAre ts rs) (hu : RowsAre us rs) (st : ∀ p ∈ ts, p ∈ rest) (su : ∀ p ∈ us, p ∈ rest) (ok : RowsOk rs) (hgot : m (Str.ofString "got") = some (.ref D)) (hdue : m (Str.ofString "due") = some (.ref U))
    (h : ∀ h' tk', Fr h₀ L h' m → News h₀ L h' rest → Q .next { s with heap := h', toks := tk' }) : wpAny (model PySem.Challenge.pw_rk0008_01 w) (lawA dp un gd L fa outer) (exec (lawSt 10) (lawEnv L fa)) Q E s := by
  have eL : lawDefn = lawDefn := rfl
  conv at eL => rhs; whnf
  have eU : lawSt 10 = lawSt 10 := rfl
  conv at eU => rhs; whnf
  rw [eU]
  unfold lawA lawEnv
  rw [eL]
  dsimp only
  walk1
  (repeat' (first | ((k_here; (with_reducible show wpAny _ _ (compareOp CmpOp.NotEq (Value.ref _) (Value.ref _)) _ _ _); k_dflt (refine' neL ?N ?a ?b ?ra ?rb ?sa ?sb ?ok ?hu ?_; (case N => k_asm); (case a => assumption); (case b => assumption); (case ra => assumption); (case rb => assumption); (case sa => assumption); (case sb => assumption); (case ok => assumption); (case hu => ktr_units); k_whole))) | (k_unfold; (try dsimp only)) | (k_end; kc_close) | walk1 | (dsimp only; walk1) | (leave1; walk_say "STEP leave1"; (try dsimp only)) | fail "no step"))
  rename Fr _ _ _ _ => F8
  rename News _ _ _ _ => N8
  exact h _ _ F8 N8
end
section
open PySem PySem.W PyProof.Rows PySem.Calls
set_option maxRecDepth 100000
set_option maxHeartbeats 400000


/-- what cnum makes of a text -/
structure CnumIs (x : Str) (n : Nat) (ws : List Str) : Prop where
  ex : ∃ (cs dg sf : List Nat) (b : Nat), x = tx cs ∧ (∀ c ∈ cs, c < 128) ∧ 46 ∉ cs ∧ cs.length ≤ 200 ∧ numB (cs.map lo1) = (dg ++ sf, b) ∧ (∀ c ∈ sf, c = 108 ∨ c = 117) ∧ sf.length ≤ 20 ∧ dg.length ≤ 400 ∧ (∀ c l, dg = l ++ [c] → c ≠ 108 ∧ c ≠ 117) ∧ IntTx (tx dg) b (n : Int) ∧ ws = wordsOf sf
theorem WV.snoc {vs : List Value} {ws : List Str} (h : WV vs ws) {x : Str} {t : Tok} : WV (vs ++ [.str x t]) (ws ++ [x]) := by
  induction h with
  | nil => exact .cons .nil
  | cons _ ih => exact .cons ih
theorem Words.wv {vs : List Value} {ws : List Str} (h : Words vs ws) : WV vs ws := by
  induction h with
  | nil => exact .nil
  | snoc _ ih => exact ih.snoc
theorem cnum_is {w : World} {mean : ExcName → Option Value} {mg mb : Str → Option Value} {rest : List (Addr × Obj)} {x : Str} {tt : Tok} {n : Nat} {ws : List Str} (ci : CnumIs x n ws) :
    CallOk w mean mg mb 469 [.str x tt] rest (fun v l' => ∃ U D n' vs t1 g, v = .ref U ∧ l' = g ++ rest ∧ Adds rest (g ++ rest) ∧ (U, ({ cls := .type "tuple", data := .seq #[.int (n : Nat) t1, .ref D] } : Obj)) ∈ g ∧ (D, PySem.W.listOf vs.toArray n') ∈ g ∧ WV vs ws) 20 200 := by
  obtain ⟨cs, dg, sf, b, rfl, h1, h2, h3, h4, h5, h6, h7, h8, h9, rfl⟩ := ci.ex
  refine (cnum_ok h1 h2 h3 h4 h5 h6 h7 h8 h9).mono ?_
  rintro v l' ⟨U, D, n', vs, rest', t1, rfl, rfl, ⟨g, rfl, hg⟩, hD, hU, hw⟩
  refine ⟨U, D, n', vs, t1, (U, _) :: (D, _) :: g, rfl, rfl, ⟨_, rfl, fun p hp q hq => ?_⟩, .head _, .tail _ (.head _), hw.wv⟩
  rcases List.mem_cons.mp hp with rfl | hp
  · exact Nat.ne_of_lt (hU q hq)
  · rcases List.mem_cons.mp hp with rfl | hp
    · exact Nat.ne_of_lt (hD q hq)
    · exact Nat.ne_of_lt (hg p hp q hq)
noncomputable def lastComp : PySem.Expr × PySem.Expr × Scope := match lawSt 11 with | .Return (some (.Compare (.ListComp e (⟨_, _, (c :: _), _⟩ :: _) s _) _ _ _)) _ => (e, c, s) | _ => (.Constant .none 0 default, .Constant .none 0 default, default)
theorem last_test {w : World} {mean : ExcName → Option Value} {mg mb : Str → Option Value} {dp un : Nat} {gd : Option (List Code)} {L fa : Addr} {outer : List Env} {A₀ : Around} {base h₀ : Heap} {m : Str → Option Value} {s : Shared} {E : Value → Shared → Prop} {rest : List (Addr × Obj)} (B : Below A₀ base outer h₀) (X : (hd.heap_39 w.params).In h₀) (T : Top view loose mean mg mb h₀) (hdp : dp + 30 < recursionLimit) (hun : un + 300 < cLine) (F : Fr h₀ L s.heap m) (N : News h₀ L s.heap rest) {C : Addr} {oC : Obj} {m₂ : Str → Option Value} (hC : LCg.NsObj oC m₂) (hm : (C, oC) ∈ rest) {d : Addr} (hx : m₂ (Str.ofString "t") = some (.ref d)) {kd x : Str} {row col : Int} {u1 u2 u3 u4 : Tok} (hd : (d, quad kd x row col u1 u2 u3 u4) ∈ rest) {Q : Bool → Shared → Prop}
    (h : ∀ tk, Q (kd == Str.ofString "NUMBER") { s with toks := tk }) : wpAny (model PySem.Challenge.pw_rk0008_01 w) (lawA dp un gd L fa outer) (isTrue lastComp.2.1 (compEnvC lastComp.2.2 [] C (lawEnv L fa)) (eval lastComp.2.1 (compEnvC lastComp.2.2 [] C (lawEnv L fa)))) Q E s := by
  have eL : lawDefn = lawDefn := rfl
  conv at eL => rhs; whnf
  have eU : lastComp = lastComp := rfl
  conv at eU => rhs; whnf
  rw [eU]
  unfold lawA lawEnv
  rw [eL]
  dsimp only
  walk1
  k_steps
  exact h _
theorem last_elt {w : World} {mean : ExcName → Option Value} {mg mb : Str → Option Value} {dp un : Nat} {gd : Option (List Code)} {L fa : Addr} {outer : List Env} {A₀ : Around} {base h₀ : Heap} {m : Str → Option Value} {s : Shared} {E : Value → Shared → Prop} {rest : List (Addr × Obj)} (B : Below A₀ base outer h₀) (X : (hd.heap_39 w.params).In h₀) (T : Top view loose mean mg mb h₀) (hdp : dp + 30 < recursionLimit) (hun : un + 300 < cLine) (F : Fr h₀ L s.heap m) (N : News h₀ L s.heap rest) {C : Addr} {oC : Obj} {m₂ : Str → Option Value} (hC : LCg.NsObj oC m₂) (hm : (C, oC) ∈ rest) {d : Addr} (hx : m₂ (Str.ofString "t") = some (.ref d)) {x : Str} {row col : Int} {u1 u2 u3 u4 : Tok} (hd : (d, quad (Str.ofString "NUMBER") x row col u1 u2 u3 u4) ∈ rest) {n : Nat} {ws : List Str} (ci : CnumIs x n ws) {Q : Value → Shared → Prop}
    (h : ∀ h' tk g U D n' vs t1, Fr h₀ L h' m → News h₀ L h' (g ++ rest) → Adds rest (g ++ rest) → (U, ({ cls := .type "tuple", data := .seq #[.int (n : Nat) t1, .ref D] } : Obj)) ∈ g → (D, PySem.W.listOf vs.toArray n') ∈ g → WV vs ws → Q (.ref U) { s with heap := h', toks := tk }) : wpAny (model PySem.Challenge.pw_rk0008_01 w) (lawA dp un gd L fa outer) (eval lastComp.1 (compEnvC lastComp.2.2 [] C (lawEnv L fa))) Q E s := by
  have eL : lawDefn = lawDefn := rfl
  conv at eL => rhs; whnf
  have eU : lastComp = lastComp := rfl
  conv at eU => rhs; whnf
  rw [eU]
  unfold lawA lawEnv
  rw [eL]
  dsimp only
  walk1
  (repeat' (first | ((k_here; (with_reducible show wpAny _ _ (call (Value.ref _) _) _ _ _); k_dflt (refine' CallOk.use (cnum_is ?ci) ?B ?F ?X ?N ?T ?d ?u ?_; (case N => k_asm); (case F => k_asm); (case B => k_asm); (case X => k_asm); (case T => k_asm); (case ci => assumption); (case d => ktr_room); (case u => ktr_units); k_whole); intro v9 l9 h9 tk9 P9 F9 N9; obtain ⟨U9, D9, n9, vs9, t9, g9, e9, e9b, a9, hU9, hD9, hw9⟩ := P9; subst e9; subst e9b; (try dsimp only))) | (k_unfold; (try dsimp only)) | (k_end; kc_close) | walk1 | (dsimp only; walk1) | (leave1; walk_say "STEP leave1"; (try dsimp only)) | fail "no step"))
  exact h _ _ _ _ _ _ _ _ F9 N9 a9 hU9 hD9 hw9
/-- the rows that are numbers, and what cnum makes of them -/
inductive NumRows : List Row → List (Nat × List Str) → Prop
  | nil : NumRows [] []
  | skip {kd x : Str} {r c : Int} {rs : List Row} {W : List (Nat × List Str)} : (kd == Str.ofString "NUMBER") = false → NumRows rs W → NumRows ((kd, x, r, c) :: rs) W
  | num {x : Str} {r c : Int} {rs : List Row} {W : List (Nat × List Str)} {n : Nat} {ws : List Str} : CnumIs x n ws → NumRows rs W → NumRows ((Str.ofString "NUMBER", x, r, c) :: rs) ((n, ws) :: W)
theorem last_rest {w : World} {mean : ExcName → Option Value} {mg mb : Str → Option Value} {dp un : Nat} {gd : Option (List Code)} {L fa : Addr} {outer : List Env} {A₀ : Around} {base h₀ : Heap} {m : Str → Option Value} {s : Shared} (B : Below A₀ base outer h₀) (X : (hd.heap_39 w.params).In h₀) (T : Top view loose mean mg mb h₀) (hdp : dp + 30 < recursionLimit) (hun : un + 300 < cLine)
    {D : Addr} {its : Array Value} {rest : List (Addr × Obj)} {W : List (Nat × List Str)} {Fin : List Value → List (Addr × Obj) → Prop} (hD : LCg.SrcAt h₀ D its rest) (hFin : ∀ ys g, Worths (g ++ rest) ys W → Fin ys (g ++ rest)) :
    ∀ {ts : List (Addr × Obj)} {rs : List Row}, RowsAre ts rs → ∀ (i : Nat) (ys : List Value) (g : List (Addr × Obj)) (dn td : List (Nat × List Str)), NumRows rs td → W = dn ++ td → (∀ j, its[i + j]? = (refs ts)[j]?) → (∀ p ∈ ts, p ∈ rest) → Worths (g ++ rest) ys dn →
      LCt.CompRestT PySem.Challenge.pw_rk0008_01 w (lawA dp un gd L fa outer) h₀ L m (lawEnv L fa) lastComp.2.1 lastComp.1 (Str.ofString "t") lastComp.2.2 [] s (LCg.SrcAt h₀ D its) (fun i v => its[i]? = some v) Fin rs.length i ys (g ++ rest) := by
  have hS : ∀ g : List (Addr × Obj), LCg.SrcAt h₀ D its (g ++ rest) := fun g => by
    rcases hD with hD | ⟨o, ho, r⟩
    · exact .inl hD
    · exact .inr ⟨o, List.mem_append_right _ ho, r⟩
  intro ts rs hr
  induction hr with
  | nil =>
    intro i ys g dn td hn hW hit hsub hw
    cases hn
    rw [List.append_nil] at hW
    subst hW
    exact LCt.CompRestT.zero (hFin _ _ hw)
  | @cons ts rs d kd x r c u1 u2 u3 u4 hr ih =>
    intro i ys g dn td hn hW hit hsub hw
    refine LCt.CompRestT.succ fun v I oI C oC D2 m₂ h tk E' hP hC hx F N off ne => ?_
    have hv : v = .ref d := by
      have e := hit 0
      rw [Nat.add_zero, hP] at e
      exact Option.some.inj e
    subst hv
    have hit' : ∀ j, its[i + 1 + j]? = (refs ts)[j]? := fun j => by
      have e := hit (j + 1)
      rw [show i + (j + 1) = i + 1 + j by omega] at e
      rw [e]; rfl
    have hdm : (d, quad kd x r c u1 u2 u3 u4) ∈ g ++ rest := List.mem_append_right _ (hsub _ (.head _))
    refine last_test B X T hdp hun F N hC (.tail _ (.head _)) hx (.tail _ (.tail _ (.tail _ hdm))) fun tk' => ?_
    cases hn with
    | skip hk hn =>
      rw [hk]
      simp only [Bool.false_eq_true, if_false]
      exact LCg.CompEnd.intro F N (g ++ rest) (fun _ hp => hp) off (hS g) (ih (i + 1) ys g dn td hn hW hit' (fun p hp => hsub p (.tail _ hp)) hw)
    | num hci hn =>
      rename_i W' n ws
      have hk : (Str.ofString "NUMBER" == Str.ofString "NUMBER") = true := beq_self_eq_true _
      rw [hk]
      simp only [if_true]
      refine last_elt B X T hdp hun F N hC (.tail _ (.head _)) hx (.tail _ (.tail _ (.tail _ hdm))) hci fun h' tk'' g' U Dw n' vs t1 F' N' a' hU hDw hwv => ?_
      have hg := a'.gap
      refine LCg.CompEnd.intro F' N' (g' ++ (g ++ rest)) (fun p hp => ?_) (LCg.Off3.of fun p hp => ?_) (by rw [← List.append_assoc]; exact hS _) ?_
      · simp only [List.mem_cons, List.mem_append] at hp ⊢
        rcases hp with h | h | h | h | h | h <;> first | ((repeat (first | exact h | exact Or.inl h | exact Or.inr h | exact Or.inl (Or.inl h) | exact Or.inl (Or.inr h) | exact Or.inl (Or.inr (Or.inl h)) | exact Or.inl (Or.inr (Or.inr h)) | apply Or.inr)); done) | simp [h]
      · rcases List.mem_append.mp hp with hp | hp
        · exact ⟨(hg p hp _ (.head _)).symm, (hg p hp _ (.tail _ (.head _))).symm, (hg p hp _ (.tail _ (.tail _ (.head _)))).symm⟩
        · exact off.mem p hp
      · have key := ih (i + 1) (ys ++ [.ref U]) (g' ++ g) (dn ++ [(n, ws)]) W' hn (by rw [hW, List.append_assoc]; rfl) hit' (fun p hp => hsub p (.tail _ hp)) (.snoc (hw.sub fun p hp => by rw [List.append_assoc]; exact List.mem_append_right _ hp) (by rw [List.append_assoc]; exact List.mem_append_left _ hU) (by rw [List.append_assoc]; exact List.mem_append_left _ hDw) hwv)
        rw [List.append_assoc] at key
        exact key
end
section
open PySem PySem.W PyProof.Rows PySem.Calls
set_option maxRecDepth 100000
set_option maxHeartbeats 400000


theorem last_list {w : World} {mean : ExcName → Option Value} {mg mb : Str → Option Value} {rest : List (Addr × Obj)} {dp un : Nat} {gd : Option (List Code)} {L fa : Addr} {outer : List Env} {A₀ : Around} {base h₀ : Heap} {m : Str → Option Value} {s : Shared} {E : Value → Shared → Prop} {Q : Value → Shared → Prop} (B : Below A₀ base outer h₀) (X : (hd.heap_39 w.params).In h₀) (T : Top view loose mean mg mb h₀) (hdp : dp + 30 < recursionLimit) (hun : un + 300 < cLine) (F : Fr h₀ L s.heap m) (N : News h₀ L s.heap rest) {D : Addr} {n : Nat} {ts : List (Addr × Obj)} {rs : List Row} {W : List (Nat × List Str)} (hD : (D, PySem.W.listOf (refs ts).toArray n) ∈ rest) (ht : RowsAre ts rs) (st : ∀ p ∈ ts, p ∈ rest) (nr : NumRows rs W) (hgot : m (Str.ofString "got") = some (.ref D)) (hsz : ts.length ≤ 900) {px py pos : Pos}
    (h : ∀ D2 h' tk ys g, Fr h₀ L h' m → News h₀ L h' ((D2, LCg.lst ys) :: (g ++ rest)) → Worths (g ++ rest) ys W → Q (.ref D2) { s with heap := h', toks := tk }) :
    wpAny (model PySem.Challenge.pw_rk0008_01 w) (lawA dp un gd L fa outer) (eval (.ListComp lastComp.1 [⟨.Name (Str.ofString "t") px, .Name (Str.ofString "got") py, [lastComp.2.1], 0⟩] lastComp.2.2 pos) (lawEnv L fa)) Q E s := by
  refine LCt.ListComp_T (cl := []) F rfl (by decide) (by rfl) (by decide) (by rfl) (nameX_L F hgot ?_ (by rfl) (by rfl))
  refine LCt.CompSrcT.ledger (its := (refs ts).toArray) rfl F N hD (by simp only [List.size_toArray, List.length_map]; exact Nat.le_trans hsz (by decide)) fun g => ?_
  have e : (refs ts).toArray.size = rs.length := by simp [ht.length]
  rw [e]
  exact last_rest (g := []) (dn := []) (td := W) B X T hdp hun (.inr ⟨_, hD, rfl, n, rfl⟩) (fun ys g hw D2 h' tk F' N' _ => h D2 h' tk ys g F' N' hw) ht 0 [] nr rfl (fun j => by simp) st .nil
noncomputable abbrev worthD (r : Nat × List Str) : PyData := .tuple [.int (r.1 : Nat), .list (r.2.map PyData.str)]
theorem readsAll_snoc {h : Heap} : ∀ {vs : List Value} {ds : List PyData} {as bs : List Addr} {v : Value} {d : PyData}, ReadsAll h vs ds as → Reads h v d bs → ∃ cs, ReadsAll h (vs ++ [v]) (ds ++ [d]) cs
  | _, _, _, _, _, _, .nil, k => ⟨_, .cons k .nil⟩
  | _, _, _, _, _, _, .cons x r, k => by
    obtain ⟨cs, hc⟩ := readsAll_snoc r k
    exact ⟨_, .cons x hc⟩
theorem WV.reads {h : Heap} {vs : List Value} {ws : List Str} (k : WV vs ws) : ReadsAll h vs (ws.map PyData.str) [] := by
  induction k with
  | nil => exact .nil
  | cons _ ih => exact ReadsAll.cons (as := []) (.str _ _) ih
theorem Worths.reads {h₀ h : Heap} {L : Addr} {news : List (Addr × Obj)} (N : News h₀ L h news) {vs : List Value} {W : List (Nat × List Str)} (k : Worths news vs W) : ∃ as, ReadsAll h vs (W.map worthD) as := by
  induction k with
  | nil => exact ⟨_, .nil⟩
  | snoc _ hU hW hw ih =>
    obtain ⟨as, ih⟩ := ih
    rw [List.map_append]
    exact readsAll_snoc ih (Reads.tuple (N _ hU).1 rfl rfl (ReadsAll.cons (.int _ _) (ReadsAll.cons (Reads.list (N _ hW).1 rfl rfl (by simpa using hw.reads)) .nil)))
noncomputable def WordsOk (W : List (Nat × List Str)) : Prop := ∀ r ∈ W, ∀ x ∈ r.2, PyData.strOk x = true
theorem strs_can : ∀ {ws : List Str}, (∀ x ∈ ws, PyData.strOk x = true) → PyData.canLayAll0 (ws.map PyData.str) = true
  | [], _ => rfl
  | x :: ws, h => by
    have h1 := h x (.head _)
    have ih := strs_can (ws := ws) fun y hy => h y (.tail _ hy)
    simp only [List.map_cons, PyData.canLayAll0, PyData.canLay0, h1, ih, Bool.and_self]
theorem strs_depth : ∀ ws : List Str, PyData.depthAll (ws.map PyData.str) ≤ 0
  | [] => by simp [PyData.depthAll]
  | x :: ws => by
    have ih := strs_depth ws
    simp only [List.map_cons, PyData.depthAll, PyData.depth]
    omega
theorem strs_eqv : ∀ ws : List Str, PyData.eqvAll (ws.map PyData.str) (ws.map PyData.str) = true
  | [] => rfl
  | x :: ws => by simp only [List.map_cons, PyData.eqvAll, PyData.eqv, strs_eqv ws, beq_self_eq_true, Bool.and_self]
theorem worths_can : ∀ {W : List (Nat × List Str)}, WordsOk W → PyData.canLayAll0 (W.map worthD) = true
  | [], _ => rfl
  | r :: W, h => by
    have h1 := strs_can (h r (.head _))
    have ih := worths_can (W := W) fun q hq => h q (.tail _ hq)
    simp only [List.map_cons, PyData.canLayAll0, PyData.canLay0, h1, ih, Bool.and_self]
theorem worths_depth : ∀ W : List (Nat × List Str), PyData.depthAll (W.map worthD) ≤ 2
  | [] => by simp [PyData.depthAll]
  | r :: W => by
    have ih := worths_depth W
    have h1 := strs_depth r.2
    simp only [List.map_cons, PyData.depthAll, PyData.depth]
    omega
theorem worths_eqv : ∀ W : List (Nat × List Str), PyData.eqvAll (W.map worthD) (W.map worthD) = true
  | [] => rfl
  | r :: W => by simp only [List.map_cons, PyData.eqvAll, PyData.eqv, strs_eqv r.2, worths_eqv W, beq_self_eq_true, Bool.and_self]
theorem worths_shaped {W : List (Nat × List Str)} (h : WordsOk W) : SeqAt.shaped (.list (W.map worthD)) = true := by
  have h1 := worths_depth W
  have h2 : PyData.depth (.list (W.map worthD)) ≤ 64 := by simp only [PyData.depth]; omega
  show (PyData.canLay0 (.list (W.map worthD)) && decide (PyData.depth (.list (W.map worthD)) ≤ 64)) = true
  rw [Bool.and_eq_true]
  exact ⟨by simp only [PyData.canLay0]; exact worths_can h, decide_eq_true h2⟩
theorem eqL {prog : Program} {w : World} {A : Around} {E : Value → Shared → Prop} {s : Shared} {h₀ : Heap} {L D U : Addr} {news : List (Addr × Obj)} {vs us : List Value} {n k : Nat} {W : List (Nat × List Str)} {Q : Value → Shared → Prop} (N : News h₀ L s.heap news) (hD : (D, PySem.W.listOf vs.toArray n) ∈ news) (hU : (U, PySem.W.listOf us.toArray k) ∈ news) (ht : Worths news vs W) (hu : Worths news us W) (ok : WordsOk W) (hun : A.units + 64 < cLine)
    (h : Q (.bool true) s) : wpAny (model prog w) A (compareOp .Eq (.ref D) (.ref U)) Q E s := by
  obtain ⟨as, ra⟩ := ht.reads N
  obtain ⟨bs, rb⟩ := hu.reads N
  refine eq_dataH (Reads.list (N _ hD).1 rfl rfl (by simpa using ra)) (Reads.list (N _ hU).1 rfl rfl (by simpa using rb)) (worths_shaped ok) (worths_shaped ok) hun ?_
  have e : PyData.eqv (.list (W.map worthD)) (.list (W.map worthD)) = true := by
    simp only [PyData.eqv]; exact worths_eqv W
  rw [e]; exact h
theorem law_s11 {w : World} {mean : ExcName → Option Value} {mg mb : Str → Option Value} {rest : List (Addr × Obj)} {dp un : Nat} {gd : Option (List Code)} {L fa : Addr} {outer : List Env} {A₀ : Around} {base h₀ : Heap} {m : Str → Option Value} {s : Shared} {E : Value → Shared → Prop} {Q : Flow → Shared → Prop} (B : Below A₀ base outer h₀) (X : (hd.heap_39 w.params).In h₀) (T : Top view loose mean mg mb h₀) (hdp : dp + 30 < recursionLimit) (hun : un + 300 < cLine) (F : Fr h₀ L s.heap m) (N : News h₀ L s.heap rest) {D Wd : Addr} {n k : Nat} {ts : List (Addr × Obj)} {rs : List Row} {W : List (Nat × List Str)} {wts : List Value} (hD : (D, PySem.W.listOf (refs ts).toArray n) ∈ rest) (ht : RowsAre ts rs) (st : ∀ p ∈ ts, p ∈ rest) (nr : NumRows rs W) (hgot : m (Str.ofString "got") = some (.ref D)) (hsz : ts.length ≤ 900) (hws : Worths rest wts W) (hWm : (Wd, PySem.W.listOf wts.toArray k) ∈ rest) (ok : WordsOk W) (hwo : m (Str.ofString "worths") = some (.ref Wd))
    (h : ∀ h' tk' rest', Fr h₀ L h' m → News h₀ L h' rest' → (∀ p ∈ rest, p ∈ rest') → Q (.ret (.bool true)) { s with heap := h', toks := tk' }) : wpAny (model PySem.Challenge.pw_rk0008_01 w) (lawA dp un gd L fa outer) (exec (lawSt 11) (lawEnv L fa)) Q E s := by
  have eL : lawDefn = lawDefn := rfl
  conv at eL => rhs; whnf
  have eU : lawSt 11 = lawSt 11 := rfl
  conv at eU => rhs; whnf
  rw [eU]
  unfold lawA lawEnv
  rw [eL]
  dsimp only
  walk1
  (repeat' (first | ((k_here; (with_reducible show wpAny _ _ (compareOp CmpOp.Eq (Value.ref _) (Value.ref _)) _ _ _); k_dflt (refine' eqL ?N ?a ?b ?ra ?rb ?ok ?hu ?_; (case N => k_asm); (case a => exact .head _); (case b => (exact .tail _ (by assumption))); (case ra => exact Worths.sub (by assumption) (fun _ h => List.mem_cons_of_mem _ h)); (case rb => exact Worths.sub (by assumption) (fun _ h => List.mem_cons_of_mem _ h)); (case ok => assumption); (case hu => ktr_units); k_whole))) | ((k_here; (with_reducible show wpAny _ _ (eval (Expr.ListComp _ _ _ _) _) _ _ _); k_dflt (refine' last_list ?B ?X ?T ?d ?u ?F ?N ?hD ?ht ?st ?nr ?hg ?z ?_; (case B => k_asm); (case X => k_asm); (case T => k_asm); (case d => omega); (case u => omega); (case F => k_asm); (case N => k_asm); (case hD => assumption); (case ht => assumption); (case st => assumption); (case nr => assumption); (case hg => assumption); (case z => assumption); k_whole); intro D9 h9 tk9 ys9 g9 F9 N9 hw9; (have hws9 := hws.sub (fun p hp => List.mem_append_right g9 hp)); (have hWm9 := List.mem_append_right g9 hWm); (try dsimp only))) | (k_unfold; (try dsimp only)) | (k_end; kc_close) | walk1 | (dsimp only; walk1) | (leave1; walk_say "STEP leave1"; (try dsimp only)) | fail "no step"))
  exact h _ _ _ F9 N9 (fun p hp => .tail _ (List.mem_append_right _ hp))
end
section
open PySem PySem.W PyProof.Rows PySem.Calls
set_option maxRecDepth 100000
set_option maxHeartbeats 400000


/-- the worth that digit signs say -/
noncomputable def valB (b : Nat) (l : List Nat) : Nat := l.foldl (fun acc c => acc * b + dval c) 0
theorem valB_snoc (b : Nat) (l : List Nat) (x : Nat) : valB b (l ++ [x]) = valB b l * b + dval x := by
  unfold valB
  rw [List.foldl_append]; rfl
theorem lo_dig : ∀ (hi : Bool) (d : Nat), d < 16 → lo1 (digCode hi d) = digCode false d := by decide
theorem lo_val : ∀ d : Nat, d < 16 → dval (digCode false d) = d := by decide
theorem lo_isdig {b d : Nat} (hb : b ≤ 16) (h : d < b) : IsDig b (digCode false d) := by
  unfold digCode IsDig
  simp only [Bool.false_eq_true, if_false]
  split
  · exact .inl ⟨Nat.le_add_right _ _, Nat.add_le_add_left (Nat.le_of_lt_succ (by assumption)) 48, by rw [Nat.add_sub_cancel_left]; exact h⟩
  · exact .inr ⟨Nat.add_le_add_left (Nat.le_of_not_lt (by assumption)) 87, Nat.add_le_add_left (Nat.le_of_lt_succ (Nat.lt_of_lt_of_le h hb)) 87, by rw [Nat.add_sub_cancel_left]; exact h⟩
theorem digT_val {b : Nat} (hb : 2 ≤ b) (hb2 : b ≤ 16) : ∀ (f r c : Nat), r < 2 ^ f → valB b ((digT b f r c).map lo1) = r
  | 0, r, c, h => by
    have : r = 0 := by simpa using h
    subst this; rfl
  | f + 1, r, c, h => by
    unfold digT
    split
    · rename_i h0; subst h0; rfl
    · have h1 : r / b < 2 ^ f := by
        have h1 : r / b ≤ r / 2 := Nat.div_le_div_left hb (by omega)
        have h2 : 2 ^ (f + 1) = 2 * 2 ^ f := by rw [Nat.pow_succ]; omega
        omega
      have hm : r % b < 16 := Nat.lt_of_lt_of_le (Nat.mod_lt _ (by omega)) hb2
      rw [List.map_append, List.map_cons, List.map_nil, valB_snoc, digT_val hb hb2 f _ _ h1, lo_dig _ _ hm, lo_val _ hm]
      exact Nat.div_add_mod' r b
theorem digT_dig {b : Nat} (hb : 2 ≤ b) : ∀ (f r c : Nat), ∀ z ∈ digT b f r c, ∃ hi d, d < b ∧ z = digCode hi d
  | 0, r, c => fun _ h => nomatch h
  | f + 1, r, c => by
    unfold digT
    split
    · exact fun _ h => nomatch h
    · intro z hz
      rcases List.mem_append.mp hz with hz | hz
      · exact digT_dig hb f _ _ z hz
      · exact ⟨_, _, Nat.mod_lt _ (by omega), List.mem_singleton.mp hz⟩
theorem digT_head {b : Nat} (hb : 2 ≤ b) : ∀ (f r c : Nat), 0 < r → r < 2 ^ f → ∃ hi d t, digT b f r c = digCode hi d :: t ∧ 0 < d ∧ d < b
  | 0, r, c, h0, h => by
    have : r = 0 := by simpa using h
    omega
  | f + 1, r, c, h0, h => by
    unfold digT
    rw [if_neg (by omega)]
    have h1 : r / b < 2 ^ f := by
      have h1 : r / b ≤ r / 2 := Nat.div_le_div_left hb (by omega)
      have h2 : 2 ^ (f + 1) = 2 * 2 ^ f := by rw [Nat.pow_succ]; omega
      omega
    by_cases hq : r / b = 0
    · have e : digT b f (r / b) (c / 2) = [] := by rw [hq]; cases f <;> simp [digT]
      rw [e]
      have hlt : r < b := by
        rcases Nat.lt_or_ge r b with h | h
        · exact h
        · have := Nat.div_pos h (by omega); omega
      exact ⟨_, r % b, [], rfl, by rw [Nat.mod_eq_of_lt hlt]; exact h0, Nat.mod_lt _ (by omega)⟩
    · obtain ⟨hi, d, t, e, h2, h3⟩ := digT_head hb f (r / b) (c / 2) (Nat.pos_of_ne_zero hq) h1
      rw [e]
      exact ⟨hi, d, t ++ [_], rfl, h2, h3⟩
theorem valB_zeros (b : Nat) : ∀ (z : Nat) (l : List Nat), valB b (List.replicate z 48 ++ l) = valB b l
  | 0, l => rfl
  | z + 1, l => by
    have e : valB b (48 :: (List.replicate z 48 ++ l)) = valB b (List.replicate z 48 ++ l) := by
      unfold valB
      rw [List.foldl_cons, show 0 * b + dval 48 = 0 by rw [Nat.zero_mul]; rfl]
    rw [List.replicate_succ, List.cons_append, e, valB_zeros b z l]
/-- the forms: base -/
theorem base_of {k : Nat} (hk : k < 6) : (baseOf k).toNat = (if k = 0 then 10 else if k = 1 then 8 else if k < 4 then 16 else 2) := by
  unfold baseOf
  repeat' split
  all_goals rfl
theorem tw_all {p : Nat → Bool} : ∀ {l : List Nat}, (∀ c ∈ l, p c = true) → l.takeWhile p = l
  | [], _ => rfl
  | c :: l, h => by rw [List.takeWhile_cons, h c (.head _), if_pos rfl, tw_all fun d hd => h d (.tail _ hd)]
theorem intTx {b n : Nat} {dg : List Nat} (hb : 2 ≤ b) (hb2 : b ≤ 16) (hne : dg ≠ []) (hd : ∀ c ∈ dg, IsDig b c) (hl : dg.length ≤ 600) (hv : valB b dg = n) : IntTx (tx dg) b (n : Int) := by
  refine ⟨b, rfl, hb, by omega, ?_, ?_, ?_, ?_⟩
  · rw [tx_len]; omega
  · simp only [List.all_toArray, List.all_eq_true, decide_eq_true_eq]
    intro c hc
    have := hd c hc
    unfold IsDig at this
    omega
  · show (dg.toArray.toList).takeWhile (· != 0) = dg.toArray.toList
    rw [List.toList_toArray]
    refine tw_all fun c hc => ?_
    have := hd c hc
    unfold IsDig at this
    simp; omega
  · show reads b dg.toArray.toList n
    rw [List.toList_toArray, ← hv]
    exact reads_digits hb hb2 hne hd hl
theorem isdig_not_suf {b c : Nat} (hb : b ≤ 16) (h : IsDig b c) : c ≠ 108 ∧ c ≠ 117 := by
  unfold IsDig at h
  omega
theorem suf_lo : ∀ r : Nat, r < 4 → (lo1 (sufCode r) = 108 ∧ wordL r = word 108 ∨ lo1 (sufCode r) = 117 ∧ wordL r = word 117) ∧ sufCode r < 128 ∧ sufCode r ≠ 46 ∧ (sufCode r = 76 ∨ sufCode r = 108 ∨ sufCode r = 85 ∨ sufCode r = 117) := by decide +kernel
theorem sufs_lo (c : Nat) : ∀ i, (∀ x ∈ (sufs c i).map lo1, x = 108 ∨ x = 117) ∧ ((sufs c i).map lo1).reverse.map word = sufW c i
  | 0 => ⟨(fun _ h => nomatch h), rfl⟩
  | i + 1 => by
    obtain ⟨h1, h2⟩ := sufs_lo c i
    have hr : c / 4 ^ i % 4 < 4 := Nat.mod_lt _ (by decide)
    obtain ⟨h3, _⟩ := suf_lo _ hr
    unfold sufs sufW
    constructor
    · intro x hx
      rw [List.map_append] at hx
      rcases List.mem_append.mp hx with hx | hx
      · exact h1 x hx
      · rw [List.map_cons, List.map_nil] at hx
        rw [List.mem_singleton.mp hx]
        rcases h3 with h3 | h3
        · exact .inl h3.1
        · exact .inr h3.1
    · rw [List.map_append, List.reverse_append, List.map_append, h2]
      rcases h3 with h3 | h3
      · rw [h3.2]; simp [h3.1]
      · rw [h3.2]; simp [h3.1]
theorem sufs_mem (c : Nat) : ∀ i, ∀ x ∈ sufs c i, x = 76 ∨ x = 108 ∨ x = 85 ∨ x = 117
  | 0 => fun _ h => nomatch h
  | i + 1 => by
    intro x hx
    unfold sufs at hx
    rcases List.mem_append.mp hx with hx | hx
    · exact sufs_mem c i x hx
    · rw [List.mem_singleton.mp hx]
      exact (suf_lo _ (Nat.mod_lt _ (by decide))).2.2.2
end
section
open PySem PySem.W PyProof.Rows PySem.Calls
set_option maxRecDepth 100000
set_option maxHeartbeats 400000


/-- the digits behind the mark -/
noncomputable def digN (a b : Int) (c : Nat) : List Nat := if coreN a b c = [] then [48] else coreN a b c
noncomputable def formN (a : Int) : Nat := (a.fmod 6).toNat
noncomputable def bsN (a : Int) : Nat := (baseOf (formN a)).toNat
theorem formN_lt (a : Int) : formN a < 6 := by
  have h0 : 0 ≤ a.fmod 6 := Int.fmod_nonneg_of_pos _ (by omega)
  have h1 : a.fmod 6 < 6 := Int.fmod_lt_of_pos _ (by omega)
  unfold formN; omega
theorem worthN_lt (a b : Int) : worthN a b < 2 ^ 60 := by
  have e0 : 0 ≤ b.fmod (if baseOf (a.fmod 6).toNat = 2 then 16777216 else 1000000000000) := Int.fmod_nonneg_of_pos _ (by split <;> omega)
  have e1 : b.fmod (if baseOf (a.fmod 6).toNat = 2 then 16777216 else 1000000000000) < (if baseOf (a.fmod 6).toNat = 2 then 16777216 else 1000000000000) := Int.fmod_lt_of_pos _ (by split <;> omega)
  have e2 : (if baseOf (a.fmod 6).toNat = 2 then (16777216 : Int) else 1000000000000) ≤ 1000000000000 := by split <;> omega
  unfold worthN
  omega
theorem bsN_range (a : Int) : 2 ≤ bsN a ∧ bsN a ≤ 16 := by
  unfold bsN
  rw [base_of (formN_lt a)]
  repeat' split
  all_goals omega
theorem coreN_eq (a b : Int) (c : Nat) : coreN a b c = List.replicate (if formN a = 0 then 0 else ((a.fdiv 6).fmod 3).toNat) 48 ++ digT (bsN a) 60 (worthN a b) c := rfl
theorem textN_eq (a b : Int) (c : Nat) : textN a b c = markOf (formN a) ++ digN a b c ++ sufs c (zN a) := rfl
theorem digN_ne (a b : Int) (c : Nat) : digN a b c ≠ [] := by
  unfold digN
  split
  · exact List.cons_ne_nil _ _
  · assumption
theorem digN_dig (a b : Int) (c : Nat) : ∀ z ∈ digN a b c, ∃ hi d, d < bsN a ∧ z = digCode hi d := by
  have hz : ∃ hi d, d < bsN a ∧ 48 = digCode hi d := ⟨false, 0, by have := bsN_range a; omega, rfl⟩
  intro z h
  unfold digN at h
  split at h
  · rw [List.mem_singleton.mp h]; exact hz
  · rw [coreN_eq] at h
    rcases List.mem_append.mp h with h | h
    · rw [List.eq_of_mem_replicate h]; exact hz
    · exact digT_dig (bsN_range a).1 _ _ _ z h
theorem digN_val (a b : Int) (c : Nat) : valB (bsN a) ((digN a b c).map lo1) = worthN a b := by
  have h1 := digT_val (bsN_range a).1 (bsN_range a).2 60 (worthN a b) c (worthN_lt a b)
  unfold digN
  split
  · rename_i h
    rw [coreN_eq] at h
    rw [(List.append_eq_nil_iff.mp h).2] at h1
    rw [← h1]; exact valB_zeros (bsN a) 1 []
  · rw [coreN_eq, List.map_append, List.map_replicate, show lo1 48 = 48 from rfl, valB_zeros]
    exact h1
theorem digN_len (a b : Int) (c : Nat) : (digN a b c).length ≤ 62 := by
  unfold digN
  split
  · exact Nat.le_of_ble_eq_true rfl
  · exact coreN_len a b c
theorem digN_isdig (a b : Int) (c : Nat) : ∀ z ∈ (digN a b c).map lo1, IsDig (bsN a) z := by
  intro z hz
  obtain ⟨y, hy, rfl⟩ := List.mem_map.mp hz
  obtain ⟨hi, d, hd, rfl⟩ := digN_dig a b c y hy
  rw [lo_dig _ _ (Nat.lt_of_lt_of_le hd (bsN_range a).2)]
  exact lo_isdig (bsN_range a).2 hd
theorem digN_head0 (a b : Int) (c : Nat) (h0 : formN a = 0) : (digN a b c = [48] ∧ worthN a b = 0) ∨ ∃ hi d t, digN a b c = digCode hi d :: t ∧ 0 < d ∧ d < 10 := by
  have hb : bsN a = 10 := by unfold bsN; rw [h0]; rfl
  have e : coreN a b c = digT 10 60 (worthN a b) c := by rw [coreN_eq, if_pos h0, hb]; rfl
  by_cases hw : worthN a b = 0
  · left
    have e2 : coreN a b c = [] := by rw [e, hw]; rfl
    exact ⟨by unfold digN; rw [if_pos e2], hw⟩
  · right
    obtain ⟨hi, d, t, h1, h2, h3⟩ := digT_head (b := 10) (by omega) 60 (worthN a b) c (Nat.pos_of_ne_zero hw) (worthN_lt a b)
    refine ⟨hi, d, t, ?_, h2, h3⟩
    unfold digN
    rw [e, h1, if_neg (List.cons_ne_nil _ _)]
theorem dig_code : ∀ (hi : Bool) (d : Nat), d < 16 → digCode hi d < 128 ∧ digCode hi d ≠ 46 ∧ (digCode hi d = 48 → d = 0) := by decide
theorem mark_code : ∀ k : Nat, k < 6 → ∀ z ∈ markOf k, z < 128 ∧ z ≠ 46 := by decide
theorem zN_lt (a : Int) : zN a < 4 := by
  have h0 : 0 ≤ (a.fdiv 18).fmod 4 := Int.fmod_nonneg_of_pos _ (by omega)
  have h2 : (a.fdiv 18).fmod 4 < 4 := Int.fmod_lt_of_pos _ (by omega)
  unfold zN; omega
theorem textN_mem (a b : Int) (c : Nat) : ∀ z ∈ textN a b c, z < 128 ∧ z ≠ 46 := by
  intro z hz
  rw [textN_eq] at hz
  rcases List.mem_append.mp hz with hz | hz
  · rcases List.mem_append.mp hz with hz | hz
    · exact mark_code _ (formN_lt a) z hz
    · obtain ⟨hi, d, hd, rfl⟩ := digN_dig a b c z hz
      have := dig_code hi d (Nat.lt_of_lt_of_le hd (bsN_range a).2)
      exact ⟨this.1, this.2.1⟩
  · rcases sufs_mem c _ z hz with rfl | rfl | rfl | rfl <;> decide
theorem textN_len (a b : Int) (c : Nat) : (textN a b c).length ≤ 67 := by
  have h1 := bodyN_len a b c
  have h2 := zN_lt a
  unfold textN
  rw [List.length_append, sufs_len]
  omega
theorem words_eq (a : Int) (c : Nat) : wordsN a c = wordsOf ((sufs c (zN a)).map lo1) := by
  have h := (sufs_lo c (zN a)).2
  have h1 := sufs_len c (zN a)
  have h2 := sufW_len c (zN a)
  unfold wordsN wordsOf
  by_cases hz : zN a = 0
  · rw [hz]; rfl
  · rw [if_neg (fun e => by rw [e] at h2; simp at h2; omega), if_neg (fun e => by
      have e2 : sufs c (zN a) = [] := List.map_eq_nil_iff.mp e
      rw [e2] at h1; simp at h1; omega), h]
theorem last_dig {b : Nat} (hb : b ≤ 16) {dg : List Nat} (h : ∀ c ∈ dg, IsDig b c) : ∀ c l, dg = l ++ [c] → c ≠ 108 ∧ c ≠ 117 := fun c l e => isdig_not_suf hb (h c (e ▸ List.mem_append_right _ (.head _)))
theorem isdig_up {b b' c : Nat} (h : IsDig b c) (k : b ≤ b') : IsDig b' c := by
  exact h.elim (fun h => .inl ⟨h.1, h.2.1, Nat.lt_of_lt_of_le h.2.2 k⟩) (fun h => .inr ⟨h.1, h.2.1, Nat.lt_of_lt_of_le h.2.2 k⟩)
theorem num_cnum (a b : Int) (c : Nat) : CnumIs (tx (textN a b c)) (worthN a b) (wordsN a c) := by
  have hk := formN_lt a
  have hbs := bsN_range a
  have hlen := textN_len a b c
  have hdl := digN_len a b c
  have hz := zN_lt a
  have hsl := sufs_len c (zN a)
  have hsf := (sufs_lo c (zN a)).1
  have hdig := digN_isdig a b c
  have hval := digN_val a b c
  have hne : (digN a b c).map lo1 ≠ [] := fun e => digN_ne a b c (List.map_eq_nil_iff.mp e)
  have key : ∀ (dg : List Nat) (B : Nat), 2 ≤ B → B ≤ 16 → numB ((textN a b c).map lo1) = (dg ++ (sufs c (zN a)).map lo1, B) → dg ≠ [] → (∀ z ∈ dg, IsDig B z) → dg.length ≤ 400 → valB B dg = worthN a b → CnumIs (tx (textN a b c)) (worthN a b) (wordsN a c) :=
    fun dg B h2 h16 hn hd0 hd hl hv => ⟨_, dg, (sufs c (zN a)).map lo1, B, rfl, fun z hz => (textN_mem a b c z hz).1, fun h => (textN_mem a b c _ h).2 rfl, by omega, hn, hsf, by rw [List.length_map, hsl]; omega, hl, last_dig h16 hd, intTx h2 h16 hd0 hd (by omega) hv, words_eq a c⟩
  have hks : formN a = 0 ∨ formN a = 1 ∨ formN a = 2 ∨ formN a = 3 ∨ formN a = 4 ∨ formN a = 5 := six hk
  have elow : (textN a b c).map lo1 = (markOf (formN a)).map lo1 ++ ((digN a b c).map lo1 ++ (sufs c (zN a)).map lo1) := by
    rw [textN_eq, List.map_append, List.map_append, List.append_assoc]
  rcases hks with h | h | h | h | h | h
  · have hb : bsN a = 10 := by unfold bsN; rw [h]; rfl
    rw [hb] at hdig hval
    rw [h] at elow
    rcases digN_head0 a b c h with ⟨e1, e2⟩ | ⟨hi, d, t, e1, h1, h2⟩
    · refine key [48] 8 (by omega) (by omega) ?_ (List.cons_ne_nil _ _) (fun z hz => ?_) (by simp) (by rw [e2]; rfl)
      · rw [elow, e1]
        show numB (48 :: (sufs c (zN a)).map lo1) = (48 :: (sufs c (zN a)).map lo1, 8)
        generalize (sufs c (zN a)).map lo1 = sf at hsf
        unfold numB
        cases sf with
        | nil => rfl
        | cons y ys =>
          have hy := hsf y (.head _)
          have n1 : ¬ (48 :: y :: ys).take 2 = [48, 120] := fun e => by simp at e; omega
          have n2 : ¬ (48 :: y :: ys).take 2 = [48, 98] := fun e => by simp at e; omega
          rw [if_neg n1, if_neg n2]; rfl
      · rw [List.mem_singleton.mp hz]; exact .inl (by omega)
    · refine key _ 10 (by omega) (by omega) ?_ hne hdig (by rw [List.length_map]; omega) hval
      rw [elow, e1]
      have hl : lo1 (digCode hi d) = digCode false d := lo_dig _ _ (by omega)
      have hn : digCode false d ≠ 48 := fun e => by have := (dig_code false d (by omega)).2.2 e; omega
      show numB (lo1 (digCode hi d) :: (t.map lo1 ++ (sufs c (zN a)).map lo1)) = _
      rw [hl]
      have n1 : ¬ (digCode false d :: (t.map lo1 ++ (sufs c (zN a)).map lo1)).take 2 = [48, 120] := fun e => by
        rw [List.take_succ_cons] at e
        exact hn (List.cons.inj e).1
      have n2 : ¬ (digCode false d :: (t.map lo1 ++ (sufs c (zN a)).map lo1)).take 2 = [48, 98] := fun e => by
        rw [List.take_succ_cons] at e
        exact hn (List.cons.inj e).1
      have n3 : ¬ (digCode false d :: (t.map lo1 ++ (sufs c (zN a)).map lo1)).take 1 = [48] := fun e => by
        rw [List.take_succ_cons] at e
        exact hn (List.cons.inj e).1
      unfold numB
      rw [if_neg n1, if_neg n2, if_neg n3, List.map_cons, hl]
      rfl
  · have hb : bsN a = 8 := by unfold bsN; rw [h]; rfl
    rw [hb] at hdig hval
    rw [h] at elow
    refine key (48 :: (digN a b c).map lo1) 8 (by omega) (by omega) ?_ (List.cons_ne_nil _ _) (fun z hz => ?_) (by simp; omega) (by rw [← hval]; exact valB_zeros 8 1 _)
    · rw [elow]
      show numB (48 :: ((digN a b c).map lo1 ++ (sufs c (zN a)).map lo1)) = (48 :: ((digN a b c).map lo1 ++ (sufs c (zN a)).map lo1), 8)
      generalize (digN a b c).map lo1 = dg at hdig hne
      cases dg with
      | nil => exact absurd rfl hne
      | cons y ys =>
        have hy := hdig y (.head _)
        unfold IsDig at hy
        have n1 : ¬ (48 :: (y :: ys ++ (sufs c (zN a)).map lo1)).take 2 = [48, 120] := fun e => by simp at e; omega
        have n2 : ¬ (48 :: (y :: ys ++ (sufs c (zN a)).map lo1)).take 2 = [48, 98] := fun e => by simp at e; omega
        unfold numB
        rw [if_neg n1, if_neg n2]; rfl
    · rcases List.mem_cons.mp hz with rfl | hz
      · exact .inl (by omega)
      · exact hdig z hz
  · have hb : bsN a = 16 := by unfold bsN; rw [h]; rfl
    rw [hb] at hdig hval
    rw [h] at elow
    refine key _ 16 (by omega) (by omega) ?_ hne hdig (by rw [List.length_map]; omega) hval
    rw [elow]; rfl
  · have hb : bsN a = 16 := by unfold bsN; rw [h]; rfl
    rw [hb] at hdig hval
    rw [h] at elow
    refine key _ 16 (by omega) (by omega) ?_ hne hdig (by rw [List.length_map]; omega) hval
    rw [elow]; rfl
  · have hb : bsN a = 2 := by unfold bsN; rw [h]; rfl
    rw [hb] at hdig hval
    rw [h] at elow
    refine key _ 2 (by omega) (by omega) ?_ hne hdig (by rw [List.length_map]; omega) hval
    rw [elow]; rfl
  · have hb : bsN a = 2 := by unfold bsN; rw [h]; rfl
    rw [hb] at hdig hval
    rw [h] at elow
    refine key _ 2 (by omega) (by omega) ?_ hne hdig (by rw [List.length_map]; omega) hval
    rw [elow]; rfl
end
section
open PySem PySem.W PyProof.Rows PySem.Calls
set_option maxRecDepth 100000
set_option maxHeartbeats 400000


theorem e0 : (Str.ofString "0").cps.toList = [48] := by decide +kernel
theorem exX : (Str.ofString "xX").cps.toList = [120, 88] := by decide +kernel
theorem ebB : (Str.ofString "bB").cps.toList = [98, 66] := by decide +kernel
theorem eLU : (Str.ofString "LlUu").cps.toList = [76, 108, 85, 117] := by decide +kernel
theorem e10 : (Str.ofString "0123456789").cps.toList = [48, 49, 50, 51, 52, 53, 54, 55, 56, 57] := by decide +kernel
theorem e8 : (Str.ofString "01234567").cps.toList = [48, 49, 50, 51, 52, 53, 54, 55] := by decide +kernel
theorem e2 : (Str.ofString "01").cps.toList = [48, 49] := by decide +kernel
theorem e16 : (Str.ofString "0123456789abcdefABCDEF").cps.toList = [48, 49, 50, 51, 52, 53, 54, 55, 56, 57, 97, 98, 99, 100, 101, 102, 65, 66, 67, 68, 69, 70] := by decide +kernel
theorem acc_yes {sg : Addr → Nat} {vs : Str} {b : Bool} {c : Addr} {r e q : List Addr} (h : Acc sg vs b (c :: r) e q) (hc : sg c ∈ vs.cps.toList) : b = true ∧ e = [c] ∧ q = r := by
  cases h with
  | yes => exact ⟨rfl, rfl, rfl⟩
  | no _ _ hn => exact absurd hc hn
theorem acc_no {sg : Addr → Nat} {vs : Str} {b : Bool} {l e q : List Addr} (h : Acc sg vs b l e q) (hc : ∀ c r, l = c :: r → ¬ sg c ∈ vs.cps.toList) : b = false ∧ e = [] ∧ q = l := by
  cases h with
  | eof => exact ⟨rfl, rfl, rfl⟩
  | yes c r hy => exact absurd hy (hc _ _ rfl)
  | no => exact ⟨rfl, rfl, rfl⟩
/-- the mark and the digits of a number -/
inductive Shape : List Nat → List Nat → Str → Prop
  | x {c : Nat} {d : List Nat} : (c = 120 ∨ c = 88) → (∀ z ∈ d, z ∈ (Str.ofString "0123456789abcdefABCDEF").cps.toList) → Shape [48, c] d (Str.ofString "0123456789abcdefABCDEF")
  | b {c : Nat} {d : List Nat} : (c = 98 ∨ c = 66) → (∀ z ∈ d, z ∈ (Str.ofString "01").cps.toList) → Shape [48, c] d (Str.ofString "01")
  | o {d : List Nat} : (∀ z ∈ d, z ∈ (Str.ofString "01234567").cps.toList) → Shape [48] d (Str.ofString "01234567")
  | n {y : Nat} {d : List Nat} : y ≠ 48 → (∀ z ∈ y :: d, z ∈ (Str.ofString "0123456789").cps.toList) → Shape [] (y :: d) (Str.ofString "0123456789")
theorem Shape.dig {m d : List Nat} {vs : Str} (h : Shape m d vs) : ∀ z ∈ d, z ∈ vs.cps.toList := by
  cases h with
  | x _ h => exact h
  | b _ h => exact h
  | o h => exact h
  | n _ h => exact h
/-- a sign that no number goes on with, and a suffix letter -/
noncomputable def Safe (c : Nat) : Prop := c ∈ ([32, 59, 42, 40, 44, 64, 36, 10, 233, 1635] : List Nat)
noncomputable def Suf (c : Nat) : Prop := c = 76 ∨ c = 108 ∨ c = 85 ∨ c = 117
theorem safe_no {c : Nat} (h : Safe c) : ¬ c ∈ (Str.ofString "xX").cps.toList ∧ ¬ c ∈ (Str.ofString "bB").cps.toList ∧ ¬ c ∈ (Str.ofString "LlUu").cps.toList ∧ ¬ c ∈ (Str.ofString "0123456789").cps.toList ∧ ¬ c ∈ (Str.ofString "01234567").cps.toList ∧ ¬ c ∈ (Str.ofString "01").cps.toList ∧ ¬ c ∈ (Str.ofString "0123456789abcdefABCDEF").cps.toList ∧ c ≠ 46 := by
  rw [exX, ebB, eLU, e10, e8, e2, e16]
  simp only [Safe, List.mem_cons, List.not_mem_nil, or_false] at h
  rcases h with rfl | rfl | rfl | rfl | rfl | rfl | rfl | rfl | rfl | rfl <;> decide
theorem suf_no {c : Nat} (h : Suf c) : ¬ c ∈ (Str.ofString "xX").cps.toList ∧ ¬ c ∈ (Str.ofString "bB").cps.toList ∧ ¬ c ∈ (Str.ofString "0123456789").cps.toList ∧ ¬ c ∈ (Str.ofString "01234567").cps.toList ∧ ¬ c ∈ (Str.ofString "01").cps.toList ∧ ¬ c ∈ (Str.ofString "0123456789abcdefABCDEF").cps.toList ∧ c ≠ 46 := by
  rw [exX, ebB, e10, e8, e2, e16]
  unfold Suf at h
  rcases h with rfl | rfl | rfl | rfl <;> decide
theorem suf_in {c : Nat} (h : Suf c) : c ∈ (Str.ofString "LlUu").cps.toList := by
  rw [eLU]
  unfold Suf at h
  rcases h with rfl | rfl | rfl | rfl <;> decide
/-- what stands behind the digits -/
noncomputable def EndsOk (sg : Addr → Nat) (t : List Addr) : Prop := ∀ c r, t = c :: r → Safe (sg c) ∨ Suf (sg c)
theorem EndsOk.not {sg : Addr → Nat} {t : List Addr} (h : EndsOk sg t) {m d : List Nat} {vs : Str} (k : Shape m d vs) : ∀ c r, t = c :: r → ¬ sg c ∈ vs.cps.toList := by
  intro c r e
  rcases h c r e with h | h
  · obtain ⟨h1, h2, h3, h4, h5, h6, h7, h8⟩ := safe_no h
    cases k <;> assumption
  · obtain ⟨h1, h2, h4, h5, h6, h7, h8⟩ := suf_no h
    cases k <;> assumption
theorem EndsOk.dot {sg : Addr → Nat} {t : List Addr} (h : EndsOk sg t) : ∀ c r, t = c :: r → sg c ≠ 46 := by
  intro c r e
  rcases h c r e with h | h
  · exact (safe_no h).2.2.2.2.2.2.2
  · exact (suf_no h).2.2.2.2.2.2
theorem oct_no {z : Nat} (h : z ∈ (Str.ofString "01234567").cps.toList) : ¬ z ∈ (Str.ofString "xX").cps.toList ∧ ¬ z ∈ (Str.ofString "bB").cps.toList := by
  rw [e8] at h
  rw [exX, ebB]
  simp only [List.mem_cons, List.not_mem_nil, or_false] at h ⊢
  rcases h with rfl | rfl | rfl | rfl | rfl | rfl | rfl | rfl <;> decide
theorem lex1_det {sg : Addr → Nat} {lm ld t : List Addr} {m d : List Nat} {vs : Str} (k : Shape m d vs) (hm : lm.map sg = m) (hd : ld.map sg = d) (ht : EndsOk sg t) {e q : List Addr} {vs' : Str} (h : Lex1 sg (lm ++ (ld ++ t)) e q vs') : e = lm ∧ q = ld ++ t ∧ vs' = vs := by
  have m0 : ∀ {z : Nat}, z = 48 → z ∈ (Str.ofString "0").cps.toList := fun h => by rw [h, e0]; exact .head _
  cases k with
  | @x c _ hc hdg =>
    obtain ⟨c0, r0, rfl, h0, hm⟩ := List.map_eq_cons_iff.mp hm
    obtain ⟨c1, r1, rfl, h1, hm⟩ := List.map_eq_cons_iff.mp hm
    rw [List.map_eq_nil_iff.mp hm] at h ⊢
    have x1 : sg c1 ∈ (Str.ofString "xX").cps.toList := by rw [exX, h1]; rcases hc with rfl | rfl <;> decide
    cases h with
    | x a1 _ a2 _ =>
      obtain ⟨_, rfl, rfl⟩ := acc_yes a1 (m0 h0)
      obtain ⟨_, rfl, rfl⟩ := acc_yes a2 x1
      exact ⟨rfl, rfl, rfl⟩
    | b a1 _ a2 f2 _ _ =>
      obtain ⟨_, rfl, rfl⟩ := acc_yes a1 (m0 h0)
      exact absurd (acc_yes a2 x1).1 (by rw [f2]; decide)
    | o a1 _ a2 f2 _ _ =>
      obtain ⟨_, rfl, rfl⟩ := acc_yes a1 (m0 h0)
      exact absurd (acc_yes a2 x1).1 (by rw [f2]; decide)
    | n a1 f1 => exact absurd (acc_yes a1 (m0 h0)).1 (by rw [f1]; decide)
  | @b c _ hc hdg =>
    obtain ⟨c0, r0, rfl, h0, hm⟩ := List.map_eq_cons_iff.mp hm
    obtain ⟨c1, r1, rfl, h1, hm⟩ := List.map_eq_cons_iff.mp hm
    rw [List.map_eq_nil_iff.mp hm] at h ⊢
    have x1 : sg c1 ∈ (Str.ofString "bB").cps.toList := by rw [ebB, h1]; rcases hc with rfl | rfl <;> decide
    have n1 : ¬ sg c1 ∈ (Str.ofString "xX").cps.toList := by rw [exX, h1]; rcases hc with rfl | rfl <;> decide
    cases h with
    | x a1 _ a2 t2 =>
      obtain ⟨_, rfl, rfl⟩ := acc_yes a1 (m0 h0)
      exact absurd (acc_no a2 (fun c r e => by cases e; exact n1)).1 (by rw [t2]; decide)
    | b a1 _ a2 f2 a3 _ =>
      obtain ⟨_, rfl, rfl⟩ := acc_yes a1 (m0 h0)
      obtain ⟨_, rfl, rfl⟩ := acc_no a2 (fun c r e => by cases e; exact n1)
      obtain ⟨_, rfl, rfl⟩ := acc_yes a3 x1
      exact ⟨rfl, rfl, rfl⟩
    | o a1 _ a2 f2 a3 f3 =>
      obtain ⟨_, rfl, rfl⟩ := acc_yes a1 (m0 h0)
      obtain ⟨_, rfl, rfl⟩ := acc_no a2 (fun c r e => by cases e; exact n1)
      exact absurd (acc_yes a3 x1).1 (by rw [f3]; decide)
    | n a1 f1 => exact absurd (acc_yes a1 (m0 h0)).1 (by rw [f1]; decide)
  | o hdg =>
    obtain ⟨c0, r0, rfl, h0, hm⟩ := List.map_eq_cons_iff.mp hm
    rw [List.map_eq_nil_iff.mp hm] at h ⊢
    have no : ∀ c r, ld ++ t = c :: r → ¬ sg c ∈ (Str.ofString "xX").cps.toList ∧ ¬ sg c ∈ (Str.ofString "bB").cps.toList := fun c r e => by
      cases ld with
      | nil =>
        rcases ht c r e with k | k
        · exact ⟨(safe_no k).1, (safe_no k).2.1⟩
        · exact ⟨(suf_no k).1, (suf_no k).2.1⟩
      | cons y ys =>
        have e' := (List.cons.inj e).1
        subst e'
        exact oct_no (hdg _ (by rw [← hd]; exact .head _))
    cases h with
    | x a1 _ a2 t2 =>
      obtain ⟨_, rfl, rfl⟩ := acc_yes a1 (m0 h0)
      exact absurd (acc_no a2 (fun c r e => (no c r e).1)).1 (by rw [t2]; decide)
    | b a1 _ a2 f2 a3 t3 =>
      obtain ⟨_, rfl, rfl⟩ := acc_yes a1 (m0 h0)
      obtain ⟨_, rfl, rfl⟩ := acc_no a2 (fun c r e => (no c r e).1)
      exact absurd (acc_no a3 (fun c r e => (no c r e).2)).1 (by rw [t3]; decide)
    | o a1 _ a2 f2 a3 f3 =>
      obtain ⟨_, rfl, rfl⟩ := acc_yes a1 (m0 h0)
      obtain ⟨_, rfl, rfl⟩ := acc_no a2 (fun c r e => (no c r e).1)
      obtain ⟨_, rfl, rfl⟩ := acc_no a3 (fun c r e => (no c r e).2)
      exact ⟨rfl, rfl, rfl⟩
    | n a1 f1 => exact absurd (acc_yes a1 (m0 h0)).1 (by rw [f1]; decide)
  | @n y _ hy hdg =>
    rw [List.map_eq_nil_iff.mp hm] at h ⊢
    obtain ⟨c0, r0, rfl, h0, _⟩ := List.map_eq_cons_iff.mp hd
    have no : ∀ c r, (c0 :: r0) ++ t = c :: r → ¬ sg c ∈ (Str.ofString "0").cps.toList := fun c r e => by
      have e' := (List.cons.inj e).1
      subst e'
      rw [e0, h0]
      simpa using hy
    cases h with
    | x a1 t1 _ _ => exact absurd (acc_no a1 no).1 (by rw [t1]; decide)
    | b a1 t1 _ _ _ _ => exact absurd (acc_no a1 no).1 (by rw [t1]; decide)
    | o a1 t1 _ _ _ _ => exact absurd (acc_no a1 no).1 (by rw [t1]; decide)
    | n a1 _ =>
      obtain ⟨_, rfl, rfl⟩ := acc_no a1 no
      exact ⟨rfl, rfl, rfl⟩
theorem tw_app {p : Addr → Bool} : ∀ {l t : List Addr}, (∀ c ∈ l, p c = true) → (∀ c r, t = c :: r → p c = false) → (l ++ t).takeWhile p = l ∧ (l ++ t).dropWhile p = t
  | [], [], _, _ => ⟨rfl, rfl⟩
  | [], c :: t, _, h => by
    have := h c t rfl
    simp [List.takeWhile_cons, List.dropWhile_cons, this]
  | c :: l, t, h, h2 => by
    have h1 := h c (.head _)
    obtain ⟨k1, k2⟩ := tw_app (l := l) (fun d hd => h d (.tail _ hd)) h2
    simp [List.takeWhile_cons, List.dropWhile_cons, h1, k1, k2]
theorem suf3 {sg : Addr → Nat} {r : List Addr} (hr : ∀ c t, r = c :: t → Safe (sg c)) {b2 b3 b4 : Bool} {e2 r2 e3 r3 e4 q : List Addr} : ∀ {ls : List Addr}, (∀ c ∈ ls, Suf (sg c)) → ls.length ≤ 3 → Acc sg (Str.ofString "LlUu") b2 (ls ++ r) e2 r2 → Acc sg (Str.ofString "LlUu") b3 r2 e3 r3 → Acc sg (Str.ofString "LlUu") b4 r3 e4 q → e2 ++ e3 ++ e4 = ls ∧ q = r := by
  have no : ∀ c t, r = c :: t → ¬ sg c ∈ (Str.ofString "LlUu").cps.toList := fun c t e => (safe_no (hr c t e)).2.2.1
  intro ls hs hl a2 a3 a4
  match ls, hs, hl, a2 with
  | [], _, _, a2 =>
    obtain ⟨_, rfl, rfl⟩ := acc_no a2 no
    obtain ⟨_, rfl, rfl⟩ := acc_no a3 no
    obtain ⟨_, rfl, rfl⟩ := acc_no a4 no
    exact ⟨rfl, rfl⟩
  | [x], hs, _, a2 =>
    obtain ⟨_, rfl, rfl⟩ := acc_yes a2 (suf_in (hs _ (.head _)))
    obtain ⟨_, rfl, rfl⟩ := acc_no a3 no
    obtain ⟨_, rfl, rfl⟩ := acc_no a4 no
    exact ⟨rfl, rfl⟩
  | [x, y], hs, _, a2 =>
    obtain ⟨_, rfl, rfl⟩ := acc_yes a2 (suf_in (hs _ (.head _)))
    obtain ⟨_, rfl, rfl⟩ := acc_yes a3 (suf_in (hs _ (.tail _ (.head _))))
    obtain ⟨_, rfl, rfl⟩ := acc_no a4 no
    exact ⟨rfl, rfl⟩
  | [x, y, z], hs, _, a2 =>
    obtain ⟨_, rfl, rfl⟩ := acc_yes a2 (suf_in (hs _ (.head _)))
    obtain ⟨_, rfl, rfl⟩ := acc_yes a3 (suf_in (hs _ (.tail _ (.head _))))
    obtain ⟨_, rfl, rfl⟩ := acc_yes a4 (suf_in (hs _ (.tail _ (.tail _ (.head _)))))
    exact ⟨rfl, rfl⟩
  | _ :: _ :: _ :: _ :: _, _, hl, _ => simp at hl
/-- a number's text: mark, digits, suffix -/
structure NumText (t : List Nat) : Prop where
  ex : ∃ m d s vs, t = m ++ d ++ s ∧ Shape m d vs ∧ s.length ≤ 3 ∧ ∀ c ∈ s, Suf c
theorem shape_first {m d : List Nat} {vs : Str} (h : Shape m d vs) : ∃ c t, m ++ d = c :: t ∧ c ∈ (Str.ofString "0123456789").cps.toList := by
  cases h with
  | x => exact ⟨48, _, rfl, by rw [e10]; decide⟩
  | b => exact ⟨48, _, rfl, by rw [e10]; decide⟩
  | o => exact ⟨48, _, rfl, by rw [e10]; decide⟩
  | n _ h => exact ⟨_, _, rfl, h _ (.head _)⟩
/-- lex_number takes a number's text whole, and not a sign more -/
theorem num_toks {sg : Addr → Nat} {l r : List Addr} {tl : List (Str × List Addr)} (hn : NumText (l.map sg)) (hr : ∀ c t, r = c :: t → Safe (sg c)) (ht : Toks sg r tl) : Toks sg (l ++ r) ((Str.ofString "NUMBER", l) :: tl) := by
  obtain ⟨m, d, s, vs, e, k, hs, hsf⟩ := hn.ex
  obtain ⟨l1, ls, rfl, e1, els⟩ := List.map_eq_append_iff.mp e
  obtain ⟨lm, ld, rfl, elm, eld⟩ := List.map_eq_append_iff.mp e1
  have hsl : ∀ c ∈ ls, Suf (sg c) := fun c hc => hsf _ (by rw [← els]; exact List.mem_map_of_mem hc)
  have hls : ls.length ≤ 3 := by have := congrArg List.length els; simp at this; omega
  have hend : EndsOk sg (ls ++ r) := fun c t e => by
    cases ls with
    | nil => exact .inl (hr c t e)
    | cons y ys => have e' := (List.cons.inj e).1; subst e'; exact .inr (hsl _ (.head _))
  obtain ⟨z, t, ez, hz⟩ := shape_first k
  rw [← e1] at ez
  obtain ⟨c0, cr, ec, hc0, _⟩ := List.map_eq_cons_iff.mp ez
  have eall : lm ++ ld ++ ls ++ r = lm ++ (ld ++ (ls ++ r)) := by simp
  have e3 : lm ++ ld ++ ls = c0 :: (cr ++ ls) := by rw [ec]; rfl
  have e4 : lm ++ ld ++ ls ++ r = c0 :: ((cr ++ ls) ++ r) := by rw [e3]; rfl
  rw [e4, e3]
  have htw := tw_app (p := fun c => decide (sg c ∈ vs.cps.toList)) (l := ld) (t := ls ++ r) (fun c hc => decide_eq_true (k.dig _ (by rw [← eld]; exact List.mem_map_of_mem hc))) (fun c t e => decide_eq_false (hend.not k c t e))
  refine Toks.num (hc0 ▸ hz) (fun e q vs' h1 => ?_) (fun cts q h => ?_) ht
  · rw [← e4, eall] at h1
    obtain ⟨rfl, rfl, rfl⟩ := lex1_det k elm eld hend h1
    rw [htw.2]
    exact fun c t e => hend.dot c t e
  · rw [← e4, eall] at h
    obtain ⟨e1', r1, vs', b2, e2', r2, b3, e3', r3, b4, e4', h1, a2, a3, a4, rfl⟩ := h
    obtain ⟨rfl, rfl, rfl⟩ := lex1_det k elm eld hend h1
    rw [htw.2] at a2
    rw [htw.1]
    obtain ⟨k1, k2⟩ := suf3 hr hsl hls a2 a3 a4
    refine ⟨?_, k2⟩
    rw [List.append_assoc, List.append_assoc, ← List.append_assoc e2', k1]
    exact e3
end
section
open PySem PySem.W PyProof.Rows PySem.Calls
set_option maxRecDepth 100000
set_option maxHeartbeats 400000


theorem dig_sets : ∀ (hi : Bool) (d : Nat), d < 16 → digCode hi d ∈ [48, 49, 50, 51, 52, 53, 54, 55, 56, 57, 97, 98, 99, 100, 101, 102, 65, 66, 67, 68, 69, 70] ∧ (d < 10 → digCode hi d ∈ [48, 49, 50, 51, 52, 53, 54, 55, 56, 57]) ∧ (d < 8 → digCode hi d ∈ [48, 49, 50, 51, 52, 53, 54, 55]) ∧ (d < 2 → digCode hi d ∈ [48, 49]) := by decide
theorem num_text (a b : Int) (c : Nat) : NumText (textN a b c) := by
  have hk := formN_lt a
  have hdig := digN_dig a b c
  have hs : (sufs c (zN a)).length ≤ 3 := by have := zN_lt a; rw [sufs_len]; omega
  have hsf : ∀ x ∈ sufs c (zN a), Suf x := sufs_mem c _
  have hks : formN a = 0 ∨ formN a = 1 ∨ formN a = 2 ∨ formN a = 3 ∨ formN a = 4 ∨ formN a = 5 := six hk
  have e := textN_eq a b c
  rcases hks with h | h | h | h | h | h
  · have hb : bsN a = 10 := by unfold bsN; rw [h]; rfl
    rw [h] at e
    rcases digN_head0 a b c h with ⟨e1, _⟩ | ⟨hi, d, t, e1, h1, h2⟩
    · exact ⟨[48], [], sufs c (zN a), _, by rw [e, e1]; rfl, .o (fun _ h => nomatch h), hs, hsf⟩
    · refine ⟨[], digCode hi d :: t, sufs c (zN a), _, by rw [e, e1]; rfl, .n (fun q => ?_) (fun z hz => ?_), hs, hsf⟩
      · have := (dig_code hi d (by omega)).2.2 q
        omega
      · rw [← e1] at hz
        obtain ⟨hi', d', hd', rfl⟩ := hdig z hz
        rw [hb] at hd'
        rw [e10]
        exact (dig_sets hi' d' (by omega)).2.1 hd'
  · have hb : bsN a = 8 := by unfold bsN; rw [h]; rfl
    rw [h] at e
    refine ⟨[48], digN a b c, sufs c (zN a), _, e, .o (fun z hz => ?_), hs, hsf⟩
    obtain ⟨hi', d', hd', rfl⟩ := hdig z hz
    rw [hb] at hd'
    rw [e8]
    exact (dig_sets hi' d' (by omega)).2.2.1 hd'
  · have hb : bsN a = 16 := by unfold bsN; rw [h]; rfl
    rw [h] at e
    refine ⟨[48, 120], digN a b c, sufs c (zN a), _, e, .x (.inl rfl) (fun z hz => ?_), hs, hsf⟩
    obtain ⟨hi', d', hd', rfl⟩ := hdig z hz
    rw [hb] at hd'
    rw [e16]
    exact (dig_sets hi' d' hd').1
  · have hb : bsN a = 16 := by unfold bsN; rw [h]; rfl
    rw [h] at e
    refine ⟨[48, 88], digN a b c, sufs c (zN a), _, e, .x (.inr rfl) (fun z hz => ?_), hs, hsf⟩
    obtain ⟨hi', d', hd', rfl⟩ := hdig z hz
    rw [hb] at hd'
    rw [e16]
    exact (dig_sets hi' d' hd').1
  · have hb : bsN a = 2 := by unfold bsN; rw [h]; rfl
    rw [h] at e
    refine ⟨[48, 98], digN a b c, sufs c (zN a), _, e, .b (.inl rfl) (fun z hz => ?_), hs, hsf⟩
    obtain ⟨hi', d', hd', rfl⟩ := hdig z hz
    rw [hb] at hd'
    rw [e2]
    exact (dig_sets hi' d' (by omega)).2.2.2 hd'
  · have hb : bsN a = 2 := by unfold bsN; rw [h]; rfl
    rw [h] at e
    refine ⟨[48, 66], digN a b c, sufs c (zN a), _, e, .b (.inr rfl) (fun z hz => ?_), hs, hsf⟩
    obtain ⟨hi', d', hd', rfl⟩ := hdig z hz
    rw [hb] at hd'
    rw [e2]
    exact (dig_sets hi' d' (by omega)).2.2.2 hd'
/-- a sign that lex_number is not called at -/
noncomputable def NoDig (c : Nat) : Prop := ¬ c ∈ (Str.ofString "0123456789").cps.toList
noncomputable def s1L : List Nat := [32, 59, 42, 40, 44, 64, 36, 10, 233, 1635]
noncomputable def s2L : List Nat := [32, 59, 43, 40, 44, 64, 36, 10, 233, 1635, 120, 76, 117, 46, 95, 101, 45]
theorem item1 : ∀ i : Nat, i < 10 → Txt.item (Str.ofString " ;*(,@$\né٣") (i : Int) = tx [s1L.getD i 0] := by decide +kernel
theorem item2 : ∀ i : Nat, i < 17 → Txt.item (Str.ofString " ;+(,@$\né٣xLu._e-") (i : Int) = tx [s2L.getD i 0] := by decide +kernel
theorem s1_safe : ∀ i : Nat, i < 10 → s1L.getD i 0 ∈ s1L := by decide
theorem s2_nodig : ∀ i : Nat, i < 17 → ¬ s2L.getD i 0 ∈ [48, 49, 50, 51, 52, 53, 54, 55, 56, 57] ∧ s2L.getD i 0 < 2000 := by decide
theorem slice2 (x y : Nat) : Txt.slice (tx [x, y]) none (some 0) = tx [] ∧ Txt.slice (tx [x, y]) none (some 1) = tx [x] ∧ Txt.slice (tx [x, y]) none (some 2) = tx [x, y] := ⟨rfl, rfl, rfl⟩
theorem gap_text (g least : Int) (h0 : 0 ≤ least) (h1 : least ≤ 1) : ∃ x y, Safe x ∧ NoDig y ∧ y < 2000 ∧ (gapT g least = tx [x] ∨ gapT g least = tx [x, y] ∨ gapT g least = tx [] ∧ least = 0) := by
  have a0 : 0 ≤ (g.fdiv 6).fmod 10 := Int.fmod_nonneg_of_pos _ (by omega)
  have a1 : (g.fdiv 6).fmod 10 < 10 := Int.fmod_lt_of_pos _ (by omega)
  have b0 : 0 ≤ (g.fdiv 60).fmod 17 := Int.fmod_nonneg_of_pos _ (by omega)
  have b1 : (g.fdiv 60).fmod 17 < 17 := Int.fmod_lt_of_pos _ (by omega)
  have c0 : 0 ≤ g.fmod (3 - least) := Int.fmod_nonneg_of_pos _ (by omega)
  have c1 : g.fmod (3 - least) < 3 - least := Int.fmod_lt_of_pos _ (by omega)
  have ea : (g.fdiv 6).fmod 10 = (((g.fdiv 6).fmod 10).toNat : Int) := by omega
  have eb : (g.fdiv 60).fmod 17 = (((g.fdiv 60).fmod 17).toNat : Int) := by omega
  have ha : ((g.fdiv 6).fmod 10).toNat < 10 := by omega
  have hb : ((g.fdiv 60).fmod 17).toNat < 17 := by omega
  refine ⟨s1L.getD ((g.fdiv 6).fmod 10).toNat 0, s2L.getD ((g.fdiv 60).fmod 17).toNat 0, s1_safe _ ha, ?_, (s2_nodig _ hb).2, ?_⟩
  · unfold NoDig
    rw [e10]
    exact (s2_nodig _ hb).1
  · have e : gapT g least = Txt.slice (tx [s1L.getD ((g.fdiv 6).fmod 10).toNat 0, s2L.getD ((g.fdiv 60).fmod 17).toNat 0]) none (some (least + g.fmod (3 - least))) := by
      unfold gapT
      rw [ea, eb, item1 _ ha, item2 _ hb, tx_app]
      rfl
    obtain ⟨k0, k1, k2⟩ := slice2 (s1L.getD ((g.fdiv 6).fmod 10).toNat 0) (s2L.getD ((g.fdiv 60).fmod 17).toNat 0)
    have hc : least + g.fmod (3 - least) = 0 ∨ least + g.fmod (3 - least) = 1 ∨ least + g.fmod (3 - least) = 2 := by omega
    rcases hc with hc | hc | hc
    · rw [hc, k0] at e
      exact .inr (.inr ⟨e, by omega⟩)
    · rw [hc, k1] at e
      exact .inl e
    · rw [hc, k2] at e
      exact .inr (.inl e)
theorem safe_nodig {c : Nat} (h : Safe c) : NoDig c := (safe_no h).2.2.2.1
theorem safe_lt {c : Nat} (h : Safe c) : c < 2000 := by
  simp only [Safe, List.mem_cons, List.not_mem_nil, or_false] at h
  omega
noncomputable abbrev PL := List (Str × List Nat)
noncomputable def onesL (l : List Nat) : PL := l.map fun x => (Str.ofString "ONE", [x])
/-- pieces that the lexer takes one by one as they were laid -/
inductive Good : PL → Prop
  | nil : Good []
  | one {x : Nat} {tl : PL} : NoDig x → Good tl → Good ((Str.ofString "ONE", [x]) :: tl)
  | num {t : List Nat} {tl : PL} : NumText t → (∀ k tl', tl = k :: tl' → ∃ x, k.2 = [x] ∧ Safe x) → Good tl → Good ((Str.ofString "NUMBER", t) :: tl)
theorem good_ones : ∀ {l : List Nat} {tl : PL}, (∀ x ∈ l, NoDig x) → Good tl → Good (onesL l ++ tl)
  | [], _, _, h => h
  | x :: l, _, hl, h => .one (hl x (.head _)) (good_ones (fun y hy => hl y (.tail _ hy)) h)
theorem good_toks {sg : Addr → Nat} {pl : PL} (h : Good pl) : ∀ gs : List (Str × List CI), gs.map (fun k => (k.1, k.2.map CI.g)) = pl → (∀ z ∈ flatG gs, sg z.c = z.g) → Toks sg ((flatG gs).map CI.c) (gs.map fun k => (k.1, k.2.map CI.c)) := by
  induction h with
  | nil =>
    intro gs e _
    rw [List.map_eq_nil_iff.mp e]
    exact .nil
  | @one x tl hx _ ih =>
    intro gs e hsg
    obtain ⟨k, gs', rfl, ek, e'⟩ := List.map_eq_cons_iff.mp e
    have ih := ih gs' e' fun z hz => hsg z (List.mem_append_right _ hz)
    obtain ⟨kd, l⟩ := k
    simp only [Prod.mk.injEq] at ek
    obtain ⟨rfl, ek⟩ := ek
    obtain ⟨z, l', rfl, hz, hl'⟩ := List.map_eq_cons_iff.mp ek
    rw [List.map_eq_nil_iff.mp hl'] at hsg ⊢
    have hzg := hsg z (List.mem_append_left _ (.head _))
    exact Toks.one (by rw [hzg, hz]; exact hx) ih
  | @num t tl ht hs _ ih =>
    intro gs e hsg
    obtain ⟨k, gs', rfl, ek, e'⟩ := List.map_eq_cons_iff.mp e
    have ih := ih gs' e' fun z hz => hsg z (List.mem_append_right _ hz)
    obtain ⟨kd, l⟩ := k
    simp only [Prod.mk.injEq] at ek
    obtain ⟨rfl, ek⟩ := ek
    have el : (l.map CI.c).map sg = t := by
      rw [← ek, List.map_map]
      exact List.map_congr_left fun z hz => hsg z (List.mem_append_left _ hz)
    have e2 : (flatG ((Str.ofString "NUMBER", l) :: gs')).map CI.c = l.map CI.c ++ (flatG gs').map CI.c := by simp [flatG]
    rw [e2]
    refine num_toks (el ▸ ht) (fun c r er => ?_) ih
    cases gs' with
    | nil => cases er
    | cons k gs'' =>
      obtain ⟨x, hx, hsafe⟩ := hs _ _ e'.symm
      obtain ⟨z, l', hz1, hz2, hl'⟩ := List.map_eq_cons_iff.mp hx
      have er' : (flatG (k :: gs'')).map CI.c = z.c :: (l' ++ flatG gs'').map CI.c := by
        show (k.2 ++ flatG gs'').map CI.c = _
        rw [hz1]; rfl
      rw [er'] at er
      have e1 := (List.cons.inj er).1
      subst e1
      have hzg := hsg z (List.mem_append_right _ (List.mem_append_left _ (by show z ∈ k.2; rw [hz1]; exact .head _)))
      rw [hzg, hz2]
      exact hsafe
/-- a piece as signs -/
noncomputable abbrev toL (ks : List (Str × Str)) : PL := ks.map fun k => (k.1, k.2.cps.toList)
noncomputable def ksOf (ns : List Int) : List (Str × Str) := barsK ns ((ns.length + 3) / 4) ++ ones (gapT ns.sum 0)
theorem ones_toL (l : List Nat) : toL (ones (tx l)) = onesL l := by
  unfold toL ones onesL
  rw [List.map_map]
  rfl
noncomputable def barL (ns : List Int) (i : Nat) : PL := toL (barK ns i)
theorem barL_eq (ns : List Int) (i : Nat) : barL ns i = toL (ones (gapT (ns.getD (4 * i + 3) 0) (if i = 0 then 0 else 1))) ++ [(Str.ofString "NUMBER", textN (ns.getD (4 * i) 0) (ns.getD (4 * i + 1) 0) (ns.getD (4 * i + 2) 0).toNat)] := by
  unfold barL barK toL
  rw [List.map_append]
  rfl
noncomputable def fromL (ns : List Int) (i : Nat) : Nat → PL
  | 0 => toL (ones (gapT ns.sum 0))
  | k + 1 => barL ns i ++ fromL ns (i + 1) k
theorem fromL_eq (ns : List Int) : ∀ i k, toL (barsK ns i) ++ fromL ns i k = fromL ns 0 (i + k)
  | 0, k => by rw [Nat.zero_add]; rfl
  | i + 1, k => by
    have e : toL (barsK ns (i + 1)) = toL (barsK ns i) ++ barL ns i := by
      show toL (barsK ns i ++ barK ns i) = _
      unfold toL barL
      rw [List.map_append]
    have h := fromL_eq ns i (k + 1)
    rw [e, List.append_assoc]
    show toL (barsK ns i) ++ fromL ns i (k + 1) = _
    rw [h, show i + (k + 1) = i + 1 + k by omega]
noncomputable def SafeHead (pl : PL) : Prop := ∀ k tl', pl = k :: tl' → ∃ x, k.2 = [x] ∧ Safe x
theorem gap_pl (g least : Int) (h0 : 0 ≤ least) (h1 : least ≤ 1) : ∃ l, toL (ones (gapT g least)) = onesL l ∧ (∀ x ∈ l, NoDig x) ∧ (l = [] → least = 0) ∧ (∀ x t, l = x :: t → Safe x) := by
  obtain ⟨x, y, hx, hy, _, h | h | ⟨h, hl⟩⟩ := gap_text g least h0 h1
  · refine ⟨[x], by rw [h, ones_toL], fun z hz => ?_, (fun e => nomatch e), fun z t e => ?_⟩
    · rw [List.mem_singleton.mp hz]; exact safe_nodig hx
    · cases e; exact hx
  · refine ⟨[x, y], by rw [h, ones_toL], fun z hz => ?_, (fun e => nomatch e), fun z t e => ?_⟩
    · rcases List.mem_cons.mp hz with rfl | hz
      · exact safe_nodig hx
      · rw [List.mem_singleton.mp hz]; exact hy
    · cases e; exact hx
  · exact ⟨[], by rw [h, ones_toL], (fun _ h => nomatch h), (fun _ => hl), (fun _ _ e => nomatch e)⟩
theorem from_good (ns : List Int) : ∀ k i, Good (fromL ns i k) ∧ (0 < i → SafeHead (fromL ns i k))
  | 0, i => by
    obtain ⟨l, e, h1, h2, h3⟩ := gap_pl ns.sum 0 (by omega) (by omega)
    unfold fromL
    rw [e]
    refine ⟨by have := good_ones h1 .nil; rwa [List.append_nil] at this, fun _ k tl' ek => ?_⟩
    cases l with
    | nil => cases ek
    | cons x t => cases ek; exact ⟨x, rfl, h3 _ _ rfl⟩
  | k + 1, i => by
    obtain ⟨hg, hs⟩ := from_good ns k (i + 1)
    obtain ⟨l, e, h1, h2, h3⟩ := gap_pl (ns.getD (4 * i + 3) 0) (if i = 0 then 0 else 1) (by split <;> omega) (by split <;> omega)
    unfold fromL
    rw [barL_eq, e, List.append_assoc]
    refine ⟨good_ones h1 (.num (num_text _ _ _) (hs (Nat.succ_pos _)) hg), fun hi k' tl' ek => ?_⟩
    cases l with
    | nil =>
      have := h2 rfl
      rw [if_neg (by omega)] at this
      omega
    | cons x t => cases ek; exact ⟨x, rfl, h3 _ _ rfl⟩
theorem ks_good (ns : List Int) : Good (toL (ksOf ns)) := by
  have h := (from_good ns ((ns.length + 3) / 4) 0).1
  have e := fromL_eq ns ((ns.length + 3) / 4) 0
  change _ = fromL ns 0 ((ns.length + 3) / 4) at e
  rw [← e] at h
  have e2 : toL (ksOf ns) = toL (barsK ns ((ns.length + 3) / 4)) ++ fromL ns ((ns.length + 3) / 4) 0 := by
    unfold toL ksOf
    rw [List.map_append]
    rfl
  rw [e2]
  exact h
end
section
open PySem PySem.W PyProof.Rows PySem.Calls
set_option maxRecDepth 100000
set_option maxHeartbeats 400000


theorem ok_one : PyData.strOk (Str.ofString "ONE") = true := by decide +kernel
theorem ok_num : PyData.strOk (Str.ofString "NUMBER") = true := by decide +kernel
theorem ok_tx {l : List Nat} (h : ∀ c ∈ l, c < 2000) : PyData.strOk (tx l) = true := by
  unfold PyData.strOk
  simp only [List.all_toArray, List.all_eq_true, decide_eq_true_eq]
  intro c hc
  have := h c hc
  omega
noncomputable def Piece (k : Str × Str) : Prop := k.2.cps.size ≠ 0 ∧ PyData.strOk k.1 = true ∧ PyData.strOk k.2 = true
theorem ones_piece {l : List Nat} (h : ∀ c ∈ l, c < 2000) : ∀ k ∈ ones (tx l), Piece k := by
  intro k hk
  obtain ⟨c, hc, rfl⟩ := List.mem_map.mp hk
  exact ⟨Nat.one_ne_zero, ok_one, ok_tx (l := [c]) fun d hd => by rw [List.mem_singleton.mp hd]; exact h c (by simpa using hc)⟩
theorem gap_piece (g least : Int) (h0 : 0 ≤ least) (h1 : least ≤ 1) : ∀ k ∈ ones (gapT g least), Piece k := by
  obtain ⟨x, y, hx, _, hy, h | h | ⟨h, _⟩⟩ := gap_text g least h0 h1
  · rw [h]
    exact ones_piece fun c hc => by rw [List.mem_singleton.mp hc]; exact safe_lt hx
  · rw [h]
    refine ones_piece fun c hc => ?_
    rcases List.mem_cons.mp hc with rfl | hc
    · exact safe_lt hx
    · rw [List.mem_singleton.mp hc]; exact hy
  · rw [h]
    exact ones_piece fun _ h => nomatch h
theorem textN_ne (a b : Int) (c : Nat) : textN a b c ≠ [] := by
  rw [textN_eq]
  intro e
  exact digN_ne a b c (List.append_eq_nil_iff.mp (List.append_eq_nil_iff.mp e).1).2
theorem bar_piece (ns : List Int) (i : Nat) : ∀ k ∈ barK ns i, Piece k := by
  intro k hk
  unfold barK at hk
  rcases List.mem_append.mp hk with hk | hk
  · exact gap_piece _ _ (by split <;> omega) (by split <;> omega) k hk
  · rw [List.mem_singleton.mp hk]
    refine ⟨fun e => textN_ne _ _ _ (List.eq_nil_of_length_eq_zero (by simpa using e)), ok_num, ok_tx fun c hc => ?_⟩
    have := (textN_mem _ _ _ c hc).1
    omega
theorem bars_piece (ns : List Int) : ∀ i, ∀ k ∈ barsK ns i, Piece k
  | 0 => fun _ h => nomatch h
  | i + 1 => fun k hk => by
    rcases List.mem_append.mp (show k ∈ barsK ns i ++ barK ns i from hk) with hk | hk
    · exact bars_piece ns i k hk
    · exact bar_piece ns i k hk
theorem ks_piece (ns : List Int) : ∀ k ∈ ksOf ns, Piece k := by
  intro k hk
  rcases List.mem_append.mp (show k ∈ barsK ns _ ++ ones _ from hk) with hk | hk
  · exact bars_piece ns _ k hk
  · exact gap_piece _ _ (by omega) (by omega) k hk
theorem sizes_app (a b : List (Str × Str)) : sizes (a ++ b) = sizes a + sizes b := by
  unfold sizes
  rw [List.map_append, List.sum_append]
theorem sizes_ones (z : Str) : sizes (ones z) = (ones z).length := by
  unfold sizes ones
  rw [List.map_map, List.length_map]
  induction z.cps.toList with
  | nil => rfl
  | cons c r ih => rw [List.map_cons, List.sum_cons, ih, List.length_cons]; show 1 + r.length = _; omega
theorem sizes_bar (ns : List Int) (i : Nat) : sizes (barK ns i) ≤ 69 := by
  unfold barK
  rw [sizes_app, sizes_ones]
  have h1 := ones_gap_len (ns.getD (4 * i + 3) 0) (if i = 0 then 0 else 1)
  have h2 := textN_len (ns.getD (4 * i) 0) (ns.getD (4 * i + 1) 0) (ns.getD (4 * i + 2) 0).toNat
  have h3 : sizes [(Str.ofString "NUMBER", tx (textN (ns.getD (4 * i) 0) (ns.getD (4 * i + 1) 0) (ns.getD (4 * i + 2) 0).toNat))] = (textN (ns.getD (4 * i) 0) (ns.getD (4 * i + 1) 0) (ns.getD (4 * i + 2) 0).toNat).length := by
    unfold sizes
    simp
  omega
theorem sizes_bars (ns : List Int) : ∀ i, sizes (barsK ns i) ≤ 69 * i
  | 0 => Nat.le_refl _
  | i + 1 => by
    have h1 := sizes_bars ns i
    have h2 := sizes_bar ns i
    show sizes (barsK ns i ++ barK ns i) ≤ _
    rw [sizes_app]
    omega
theorem ks_sizes {ns : List Int} (hl : ns.length ≤ 20) : sizes (ksOf ns) ≤ 900 := by
  unfold ksOf
  rw [sizes_app, sizes_ones]
  have h1 := sizes_bars ns ((ns.length + 3) / 4)
  have h2 := ones_gap_len ns.sum 0
  omega
theorem ks_len {ns : List Int} (hl : ns.length ≤ 20) : (ksOf ns).length ≤ 90 := by
  unfold ksOf
  rw [List.length_append]
  have h1 := barsK_len ns ((ns.length + 3) / 4)
  have h2 := ones_gap_len ns.sum 0
  omega
inductive NumKs : List (Str × Str) → List (Nat × List Str) → Prop
  | nil : NumKs [] []
  | skip {x : Str} {ks : List (Str × Str)} {W : List (Nat × List Str)} : NumKs ks W → NumKs ((Str.ofString "ONE", x) :: ks) W
  | num {x : Str} {ks : List (Str × Str)} {W : List (Nat × List Str)} {n : Nat} {ws : List Str} : CnumIs x n ws → NumKs ks W → NumKs ((Str.ofString "NUMBER", x) :: ks) ((n, ws) :: W)
theorem NumKs.app {a b : List (Str × Str)} {U V : List (Nat × List Str)} (h : NumKs a U) (k : NumKs b V) : NumKs (a ++ b) (U ++ V) := by
  induction h with
  | nil => exact k
  | skip _ ih => exact .skip ih
  | num c _ ih => exact .num c ih
theorem numKs_ones (z : Str) : NumKs (ones z) [] := by
  unfold ones
  induction z.cps.toList with
  | nil => exact .nil
  | cons c r ih => exact .skip ih
theorem numKs_bar (ns : List Int) (i : Nat) : NumKs (barK ns i) [barW ns i] := (numKs_ones _).app (.num (num_cnum _ _ _) .nil)
theorem numKs_bars (ns : List Int) : ∀ i, NumKs (barsK ns i) (barsW ns i)
  | 0 => .nil
  | i + 1 => (numKs_bars ns i).app (numKs_bar ns i)
theorem ks_num (ns : List Int) : NumKs (ksOf ns) (barsW ns ((ns.length + 3) / 4)) := by
  have h := (numKs_bars ns ((ns.length + 3) / 4)).app (numKs_ones (gapT ns.sum 0))
  rw [List.append_nil] at h
  exact h
theorem one_ne_num : (Str.ofString "ONE" == Str.ofString "NUMBER") = false := by decide +kernel
theorem numRows_of {ks : List (Str × Str)} {W : List (Nat × List Str)} (h : NumKs ks W) : ∀ rs : List Row, rs.map (fun r => (r.1, r.2.1)) = ks → NumRows rs W := by
  induction h with
  | nil => intro rs e; rw [List.map_eq_nil_iff.mp e]; exact .nil
  | skip _ ih =>
    intro rs e
    obtain ⟨⟨kd, x, r, c⟩, rs', rfl, ek, e'⟩ := List.map_eq_cons_iff.mp e
    simp only [Prod.mk.injEq] at ek
    obtain ⟨rfl, rfl⟩ := ek
    exact .skip one_ne_num (ih rs' e')
  | num hc _ ih =>
    intro rs e
    obtain ⟨⟨kd, x, r, c⟩, rs', rfl, ek, e'⟩ := List.map_eq_cons_iff.mp e
    simp only [Prod.mk.injEq] at ek
    obtain ⟨rfl, rfl⟩ := ek
    exact .num hc (ih rs' e')
theorem rowsOk_of {ks : List (Str × Str)} (h : ∀ k ∈ ks, Piece k) (rs : List Row) (e : rs.map (fun r => (r.1, r.2.1)) = ks) : RowsOk rs := fun r hr => (h (r.1, r.2.1) (e ▸ List.mem_map_of_mem hr)).2
theorem ok_int : PyData.strOk (Str.ofString "int") = true := by decide +kernel
theorem ok_wordL (r : Nat) : PyData.strOk (wordL r) = true := by
  unfold wordL
  split <;> decide +kernel
theorem ok_sufW (c : Nat) : ∀ i, ∀ x ∈ sufW c i, PyData.strOk x = true
  | 0 => fun _ h => nomatch h
  | i + 1 => fun x hx => by
    rcases List.mem_cons.mp (show x ∈ wordL _ :: sufW c i from hx) with rfl | hx
    · exact ok_wordL _
    · exact ok_sufW c i x hx
theorem bar_words (ns : List Int) : ∀ i, WordsOk (barsW ns i)
  | 0 => fun _ h => nomatch h
  | i + 1 => fun r hr x hx => by
    rcases List.mem_append.mp (show r ∈ barsW ns i ++ [barW ns i] from hr) with hr | hr
    · exact bar_words ns i r hr x hx
    · rw [List.mem_singleton.mp hr] at hx
      unfold barW wordsN at hx
      simp only at hx
      split at hx
      · rw [List.mem_singleton.mp hx]; exact ok_int
      · exact ok_sufW _ _ x hx
/-- the tuples got, taken apart from behind -/
theorem Quads.inv {κ : LxK} {ts : List (Addr × Obj)} {l : List (Str × List Addr)} (h : Quads κ ts l) : ∀ {ks : List (Str × List Addr)} {k : Str × List Addr}, l = ks ++ [k] → ∃ ts' d c cr u1 u2 u3 u4, ts = ts' ++ [(d, quad k.1 ⟨(k.2.map κ.sg).toArray⟩ (κ.row c) (κ.col c) u1 u2 u3 u4)] ∧ k.2 = c :: cr ∧ Quads κ ts' ks := by
  intro ks k e
  cases h with
  | nil => simp at e
  | @snoc ts ks' d k' c cr u1 u2 u3 u4 h hk =>
    obtain ⟨rfl, e2⟩ := List.append_inj' e rfl
    cases e2
    exact ⟨ts, d, c, cr, u1, u2, u3, u4, rfl, hk, h⟩
/-- what was got is what was due -/
theorem rows_eq {κ : LxK} {us : List (Addr × Obj)} {gs : List (Str × List CI)} (h : Dues us gs) : ∀ {ts : List (Addr × Obj)}, Quads κ ts (gs.map fun k => (k.1, k.2.map CI.c)) → (∀ z ∈ flatG gs, κ.sg z.c = z.g ∧ κ.row z.c = z.row ∧ κ.col z.c = z.col) →
    ∃ rs : List Row, RowsAre ts rs ∧ RowsAre us rs ∧ rs.map (fun r => (r.1, r.2.1)) = gs.map fun k => (k.1, (⟨(k.2.map CI.g).toArray⟩ : Str)) := by
  induction h with
  | nil =>
    intro ts hq _
    have e : ts = [] := List.eq_nil_of_length_eq_zero (by rw [hq.length]; rfl)
    subst e
    exact ⟨[], .nil, .nil, rfl⟩
  | @snoc us gs d kd x l r c u1 u2 u3 u4 h hl hf hx ih =>
    intro ts hq hz
    have e0 : (gs ++ [(kd, l)]).map (fun k => (k.1, k.2.map CI.c)) = gs.map (fun k => (k.1, k.2.map CI.c)) ++ [(kd, l.map CI.c)] := by rw [List.map_append]; rfl
    obtain ⟨ts', d', c', cr, v1, v2, v3, v4, rfl, hk, hq'⟩ := hq.inv e0
    have efl : flatG (gs ++ [(kd, l)]) = flatG gs ++ l := by simp [flatG]
    rw [efl] at hz
    obtain ⟨rs, h1, h2, h3⟩ := ih hq' fun z hz' => hz z (List.mem_append_left _ hz')
    obtain ⟨z, l', rfl⟩ := List.exists_cons_of_ne_nil hl
    have hzz := hz z (List.mem_append_right _ (.head _))
    obtain ⟨f1, f2⟩ := hf z l' rfl
    have ec : c' = z.c := (List.cons.inj hk).1.symm
    have ex : (⟨((((z :: l').map CI.c)).map κ.sg).toArray⟩ : Str) = x := by
      have e1 : ((z :: l').map CI.c).map κ.sg = (z :: l').map CI.g := by
        rw [List.map_map]
        exact List.map_congr_left fun y hy => (hz y (List.mem_append_right _ hy)).1
      rw [e1, hx]
    refine ⟨rs ++ [(kd, x, r, c)], ?_, h2.snoc, ?_⟩
    · have e5 : κ.row c' = r := by rw [ec, hzz.2.1, f1]
      have e6 : κ.col c' = c := by rw [ec, hzz.2.2, f2]
      simp only [ex, e5, e6]
      exact h1.snoc
    · rw [List.map_append, List.map_append, h3]
      simp only [List.map_cons, List.map_nil]
      have e1 : (⟨((z :: l').map CI.g).toArray⟩ : Str) = x := by rw [hx]
      rw [← e1]
      rfl
end
section
open PySem PySem.W PyProof.Rows PySem.Calls
set_option maxRecDepth 100000
set_option maxHeartbeats 400000


/-- an object that is no cell and no table -/
noncomputable def Kd (o : Obj) : Prop := (∀ v, o.data ≠ .cell v) ∧ ∀ v, o.data ≠ .fields v
theorem kd_seq {c : Value} {d : Option Addr} {sl : Array (Option Value)} {a : Array Value} {n : Nat} : Kd ⟨c, d, .seq a n, sl⟩ := ⟨(fun _ e => nomatch e), fun _ e => nomatch e⟩
theorem kd_plain {c : Value} {d : Option Addr} {sl : Array (Option Value)} : Kd ⟨c, d, .plain, sl⟩ := ⟨(fun _ e => nomatch e), fun _ e => nomatch e⟩
theorem kd_dict {c : Value} {d : Option Addr} {sl : Array (Option Value)} {es : Array DictEntry} {n : Nat} : Kd ⟨c, d, .dict es n, sl⟩ := ⟨(fun _ e => nomatch e), fun _ e => nomatch e⟩
theorem news_one {h₀ h : Heap} {L : Addr} {l : List (Addr × Obj)} (N : News h₀ L h l) {p q : Addr × Obj} (hp : p ∈ l) (hq : q ∈ l) (e : p.1 = q.1) : p.2 = q.2 := by
  have h1 := (N p hp).1
  rw [e, (N q hq).1] at h1
  exact (Option.some.inj h1).symm
theorem ne_cell {h₀ h : Heap} {L : Addr} {l : List (Addr × Obj)} (N : News h₀ L h l) {p q : Addr × Obj} (hp : p ∈ l) (hq : q ∈ l) (k : Kd p.2) {v : Option Value} (d : q.2.data = .cell v) : p.1 ≠ q.1 := fun e => k.1 v (by rw [news_one N hp hq e]; exact d)
theorem ne_tab {h₀ h : Heap} {L : Addr} {l : List (Addr × Obj)} (N : News h₀ L h l) {p : Addr × Obj} {a : Addr} {ps : Array Value} (hp : p ∈ l) (hq : (a, tabObj ps) ∈ l) (k : Kd p.2) : p.1 ≠ a := fun e => k.2 ps (by rw [news_one N hp hq e])
/-- the ledger without some places -/
noncomputable def less (l : List (Addr × Obj)) (S : List Addr) : List (Addr × Obj) := l.filter fun p => decide (p.1 ∉ S)
theorem less_sub {l : List (Addr × Obj)} {S : List Addr} : ∀ p ∈ less l S, p ∈ l := fun p hp => (List.mem_filter.mp hp).1
theorem less_off {l : List (Addr × Obj)} {S : List Addr} : OwnOff (less l S) S := fun p hp b hb e => by
  have := of_decide_eq_true (List.mem_filter.mp hp).2
  exact this (e ▸ hb)
theorem less_mem {l : List (Addr × Obj)} {S : List Addr} {p : Addr × Obj} (hp : p ∈ l) (h : ∀ b ∈ S, p.1 ≠ b) : p ∈ less l S := List.mem_filter.mpr ⟨hp, decide_eq_true fun hs => h _ hs rfl⟩
theorem execs_split (a b : Stmt) (r : List Stmt) (env : Env) : execs (a :: b :: r) env = (execs (a :: b :: []) env >>= fun f => match f with | .next => execs r env | f => pure f) := by
  rw [execs_cons (st := a) (rest := b :: r), execs_cons (st := a) (rest := [b]), bind_assoc]
  refine congrArg _ (funext fun f => ?_)
  cases f with
  | next =>
    simp only
    rw [execs_cons (st := b) (rest := r), execs_cons (st := b) (rest := []), bind_assoc]
    refine congrArg _ (funext fun f => ?_)
    cases f <;> simp [execs_nil]
  | brk => simp
  | cont => simp
  | ret v => simp
theorem execs_two {M : Model} {A : Around} {env : Env} {a b : Stmt} {r : List Stmt} {Q : Flow → Shared → Prop} {E : Value → Shared → Prop} {s : Shared}
    (h : wpAny M A (execs (a :: b :: []) env) (fun f s' => f = .next ∧ wpAny M A (execs r env) Q E s') E s) : wpAny M A (execs (a :: b :: r) env) Q E s := by
  rw [execs_split]
  exact wpAny_bind (wpAny_mono h (fun f s' h => by obtain ⟨rfl, h⟩ := h; exact h) fun _ _ e => e)
end
section
open PySem PySem.W PyProof.Rows PySem.Calls
set_option maxRecDepth 100000
set_option maxHeartbeats 400000


theorem far3 {L a : Nat} (hL : 499 < L) (h : L + 1 + 1 + 1 < a) : a ≠ L + 1 + 1 + 1 ∧ a ≠ L + 1 + 1 ∧ a ≠ 497 ∧ a ≠ 225 ∧ 500 < a := by omega
theorem big_ne {L : Nat} (hL : 499 < L) : L + 1 ≠ 497 ∧ L + 1 ≠ 225 ∧ L + 1 + 1 ≠ 225 ∧ L + 1 + 1 + 1 ≠ 225 := by omega
theorem out_of {p b dx ct : Nat} (h : p < dx ∨ ct < p) (h1 : dx ≤ b) (h2 : b ≤ ct) : p ≠ b := fun e => h.elim (fun q => Nat.lt_irrefl _ (Nat.lt_of_lt_of_le (e ▸ q) h1)) (fun q => Nat.lt_irrefl _ (Nat.lt_of_lt_of_le (e ▸ q) h2))
theorem find_ci {l : List CI} (h : l.Pairwise (fun a b => @LT.lt Nat _ a.c b.c)) : ∀ z ∈ l, l.find? (fun y => decide (y.c = z.c)) = some z := by
  induction h with
  | nil => exact fun _ h => nomatch h
  | @cons a l hl _ ih =>
    intro z hz
    rcases List.mem_cons.mp hz with rfl | hz
    · simp
    · have hne : ¬ a.c = z.c := Nat.ne_of_lt (hl z hz)
      rw [List.find?_cons_of_neg (by simpa using hne)]
      exact ih z hz
noncomputable def ciOf (l : List CI) (a : Addr) : CI := (l.find? fun y => decide (y.c = a)).getD ⟨0, 0, 0, 0, 0⟩
theorem ciOf_eq {l : List CI} (h : l.Pairwise (fun a b => @LT.lt Nat _ a.c b.c)) {z : CI} (hz : z ∈ l) : ciOf l z.c = z := by
  unfold ciOf
  rw [find_ci h z hz]; rfl
theorem CharIn.kd {l l' : List (Addr × Obj)} {c lo : Addr} {g : Nat} (h : CharIn l c g lo) (s : ∀ p ∈ l, Kd p.2 → p ∈ l') : CharIn l' c g lo := by
  obtain ⟨a1, a2, a3, a4, a5, a6, a7, h1, h2⟩ := h
  exact ⟨a1, a2, a3, a4, a5, a6, a7, s _ h1 kd_plain, s _ h2 kd_dict⟩
theorem LocIn.kd {l l' : List (Addr × Obj)} {a : Addr} {r c : Int} (h : LocIn l a r c) (s : ∀ p ∈ l, Kd p.2 → p ∈ l') : LocIn l' a r c := by
  obtain ⟨a1, a2, a3, a4, a5, h1, h2⟩ := h
  exact ⟨a1, a2, a3, a4, a5, s _ h1 kd_plain, s _ h2 kd_dict⟩
theorem Worths.kd {l l' : List (Addr × Obj)} {vs : List Value} {ws : List (Nat × List Str)} (h : Worths l vs ws) (s : ∀ p ∈ l, Kd p.2 → p ∈ l') : Worths l' vs ws := by
  induction h with
  | nil => exact .nil
  | snoc _ a b c ih => exact .snoc ih (s _ a kd_seq) (s _ b kd_seq) c
theorem Dues.kd {us : List (Addr × Obj)} {gs : List (Str × List CI)} (h : Dues us gs) : ∀ p ∈ us, Kd p.2 := by
  induction h with
  | nil => exact fun _ h => nomatch h
  | snoc _ _ _ _ ih =>
    intro p hp
    rcases List.mem_append.mp hp with hp | hp
    · exact ih p hp
    · rw [List.mem_singleton.mp hp]; exact kd_seq
theorem sum_nonneg : ∀ {ns : List Int}, (∀ x ∈ ns, 0 ≤ x) → 0 ≤ ns.sum
  | [], _ => Int.le_refl _
  | x :: ns, h => by
    have h1 := h x (.head _)
    have h2 := sum_nonneg (ns := ns) fun y hy => h y (.tail _ hy)
    rw [List.sum_cons]; omega
theorem getD_nonneg {ns : List Int} (h : ∀ x ∈ ns, 0 ≤ x) (k : Nat) : 0 ≤ ns.getD k 0 := by
  unfold List.getD
  cases e : ns[k]? with
  | none => exact Int.le_refl _
  | some x => exact h x (List.mem_of_getElem? e)
theorem eG9 : lawSt 9 = gotStmt := rfl
theorem law_walk {w : World} {mean : ExcName → Option Value} {mg mb : Str → Option Value} {rest : List (Addr × Obj)} {dp un : Nat} {gd : Option (List Code)} {L fa : Addr} {outer : List Env} {A₀ : Around} {base h₀ : Heap} {m : Str → Option Value} {s : Shared} {E : Value → Shared → Prop} {Q : Flow → Shared → Prop} (B : Below A₀ base outer h₀) (X : (hd.heap_39 w.params).In h₀) (T : Top view loose mean mg mb h₀) (hdp : dp + 30 < recursionLimit) (hun : un + 300 < cLine) (F : Fr h₀ L s.heap m)
    {o1 o2 o3 : Obj} (hd1 : o1.data = .cell none) (hd2 : o2.data = .cell none) (hd3 : o3.data = .cell none) (hL : @LT.lt Nat _ 499 L) (N : News h₀ L s.heap rest) (hc1 : (L + 1, o1) ∈ rest) (hc2 : (L + 1 + 1, o2) ∈ rest) (hc3 : (L + 1 + 1 + 1, o3) ∈ rest) (ht1 : (225, tabObj #[]) ∈ rest) (ht2 : (497, tabObj #[]) ∈ rest)
    {D : Addr} {nD : Nat} {ys : List Value} {ns : List Int} (hD : (D, PySem.W.listOf ys.toArray nD) ∈ rest) (hys : IntsAre ys ns) (hl : ns.length ≤ 20) (hl0 : 0 < ns.length) (hpos : ∀ x ∈ ns, 0 ≤ x) (htape : m (Str.ofString "tape") = some (.ref D)) (hbare : AllBare s.gens)
    (h : ∀ h' gn' tk' rest' ps ps', News h₀ L h' rest' → (∀ b o, h₀.get? b = some o → h'.get? b = some o) → (225, tabObj ps) ∈ rest' → (497, tabObj ps') ∈ rest' → AllBare gn' → Q (.ret (.bool true)) { s with heap := h', gens := gn', toks := tk' }) :
    wpAny (model PySem.Challenge.pw_rk0008_01 w) (lawA dp un gd L fa outer) (execs (lawSt 1 :: lawSt 2 :: lawSt 3 :: lawSt 4 :: lawSt 5 :: lawSt 6 :: lawSt 7 :: lawSt 8 :: lawSt 9 :: lawSt 10 :: lawSt 11 :: []) (lawEnv L fa)) Q E s := by
  have hn0 := getD_nonneg hpos
  refine execs_cut (law_s1 B X T hdp hun F N fun h1 tk1 P W U1 oU1 F1 N1 hRP hPW hWU hPU => ⟨rfl, ?_⟩)
  have N1' : News h₀ L h1 ((P, PySem.W.listOf ([] : List Value).toArray 0) :: (W, PySem.W.listOf ([] : List Value).toArray 0) :: (U1, oU1) :: rest) := fun p hp => N1 p (by
    simp only [List.mem_cons] at hp ⊢
    rcases hp with hp | hp | hp | hp <;> first | ((repeat (first | exact hp | exact Or.inl hp | exact Or.inr hp | exact Or.inl (Or.inl hp) | exact Or.inl (Or.inr hp) | exact Or.inl (Or.inr (Or.inl hp)) | exact Or.inl (Or.inr (Or.inr hp)) | apply Or.inr)); done) | simp [hp])
  have oPW : OwnOff ((U1, oU1) :: rest) [P, W] := own_cons (fun c hc => by
    simp only [List.mem_cons, List.not_mem_nil, or_false] at hc
    rcases hc with rfl | rfl
    · exact (Nat.ne_of_lt hPU).symm
    · exact (Nat.ne_of_lt hWU).symm) (fun p hp c hc => by
    simp only [List.mem_cons, List.not_mem_nil, or_false] at hc
    have hp1 : @LT.lt Nat _ p.1 P := hRP p hp
    rcases hc with rfl | rfl
    · exact Nat.ne_of_lt hp1
    · exact Nat.ne_of_lt (Nat.lt_trans hp1 hPW))
  refine execs_cut (law_s2 B X T hdp hun F1 (Nat.ne_of_lt hPW) oPW N1' (.tail _ hD) hys hl hl0 hn0 ((if_neg (by decide)).trans ((if_neg (by decide)).trans htape)) (if_pos rfl) ((if_neg (by decide)).trans (if_pos rfl)) fun h2 tk2 m2 r2 ts2 wts nP2 nW2 htape2 hP2 hW2 F2 N2 a2 o2' hts2 hsub2 hw2 => ⟨rfl, ?_⟩)
  have oP3 : OwnOff ((W, PySem.W.listOf wts.toArray nW2) :: r2) [P] := own_cons (by simpa using (Nat.ne_of_lt hPW).symm) (own_sub o2' (fun _ h => h) (by simp))
  refine execs_cut (law_s3 B X T hdp hun F2 (vs := refs ts2) (by rw [List.length_map, hts2.length]; have := barsK_len ns ((ns.length + 3) / 4); omega) oP3 N2 (.tail _ (a2.sub _ (.tail _ hD))) hys hl htape2 (sum_nonneg hpos) hP2 fun h3 tk3 r3 ts3 nP3 F3 hts3 N3 hsub3 a3 o3' => ⟨rfl, ?_⟩)
  have e3 : refs ts2 ++ refs ts3 = refs (ts2 ++ ts3) := by simp [refs]
  rw [e3] at N3
  have hts : Pairs (ts2 ++ ts3) (ksOf ns) := hts2.app hts3
  refine execs_cut (law_s4 B X T hdp hun F3 N3 fun h4 tk4 C U4 oX X4 t41 t42 F4 N4 lC lU lX hCU hCX hUX => ⟨rfl, ?_⟩)
  have lC' := ktn_ltOf lC
  have lU' := ktn_ltOf lU
  have N4' : News h₀ L h4 ((C, PySem.W.listOf ([] : List Value).toArray 0) :: (U4, PySem.W.listOf ([] : List Value).toArray 0) :: (X4, oX) :: (P, PySem.W.listOf (refs (ts2 ++ ts3)).toArray nP3) :: r3) := fun p hp => N4 p (by
    simp only [List.mem_cons] at hp ⊢
    rcases hp with hp | hp | hp | hp | hp <;> first | ((repeat (first | exact hp | exact Or.inl hp | exact Or.inr hp | exact Or.inl (Or.inl hp) | exact Or.inl (Or.inr hp) | exact Or.inl (Or.inr (Or.inl hp)) | exact Or.inl (Or.inr (Or.inr hp)) | apply Or.inr)); done) | simp [hp])
  have oCU : OwnOff ((X4, oX) :: (P, PySem.W.listOf (refs (ts2 ++ ts3)).toArray nP3) :: r3) [C, U4] := own_cons (fun c hc => by
    simp only [List.mem_cons, List.not_mem_nil, or_false] at hc
    rcases hc with rfl | rfl
    · exact (Nat.ne_of_lt hCX).symm
    · exact (Nat.ne_of_lt hUX).symm) (fun p hp c hc => by
    simp only [List.mem_cons (a := c), List.not_mem_nil, or_false] at hc
    rcases hc with rfl | rfl
    · exact Nat.ne_of_lt (lC' p hp)
    · exact Nat.ne_of_lt (lU' p hp))
  have hsub : ∀ p ∈ ts2 ++ ts3, p ∈ (X4, oX) :: (P, PySem.W.listOf (refs (ts2 ++ ts3)).toArray nP3) :: r3 := fun p hp => .tail _ (.tail _ (by
    rcases List.mem_append.mp hp with hp | hp
    · exact a3.sub _ (.tail _ (hsub2 p hp))
    · exact hsub3 p hp))
  refine execs_cut (law_s5 B X T hdp hun F4 (Nat.ne_of_lt hCU) oCU N4' (.tail _ (.head _)) hts hsub (fun k hk => (ks_piece ns k hk).1) (ks_sizes hl) (ks_len hl) ((if_neg (by decide)).trans ((if_neg (by decide)).trans ((if_neg (by decide)).trans ((if_neg (by decide)).trans hP2)))) ((if_neg (by decide)).trans ((if_neg (by decide)).trans ((if_neg (by decide)).trans (if_pos rfl)))) ((if_neg (by decide)).trans ((if_neg (by decide)).trans (if_pos rfl))) ((if_neg (by decide)).trans (if_pos rfl)) (if_pos rfl) fun h5 tk5 m5 us gs nC5 nU5 g5 hkeep F5 N5 a5 o5 hdu hus hch hpw hmp => ⟨rfl, ?_⟩)
  generalize hl5 : (C, PySem.W.listOf (crefs (flatG gs)).toArray nC5) :: (U4, PySem.W.listOf (refs us).toArray nU5) :: (g5 ++ (X4, oX) :: (P, PySem.W.listOf (refs (ts2 ++ ts3)).toArray nP3) :: r3) = l5 at N5
  have to5 : ∀ p ∈ r3, p ∈ l5 := fun p hp => hl5 ▸ .tail _ (.tail _ (List.mem_append_right _ (.tail _ (.tail _ hp))))
  have up2 : ∀ p ∈ r2, p ∈ l5 := fun p hp => to5 p (a3.sub _ (.tail _ hp))
  have up1 : ∀ p ∈ rest, p ∈ l5 := fun p hp => up2 p (a2.sub _ (.tail _ hp))
  have upW : (W, PySem.W.listOf wts.toArray nW2) ∈ l5 := to5 _ (a3.sub _ (.head _))
  have upG : ∀ p ∈ g5, p ∈ l5 := fun p hp => hl5 ▸ .tail _ (.tail _ (List.mem_append_left _ hp))
  have upC : (C, PySem.W.listOf (crefs (flatG gs)).toArray nC5) ∈ l5 := hl5 ▸ .head _
  have upU : (U4, PySem.W.listOf (refs us).toArray nU5) ∈ l5 := hl5 ▸ .tail _ (.head _)
  have nxt : ∀ n : Nat, n < n + 1 := fun n => Nat.lt_succ_self n
  have hA : News h₀ L h5 ((L + 1, o1) :: less l5 [L + 1]) := fun p hp => by
    rcases List.mem_cons.mp hp with rfl | hp
    · exact N5 _ (up1 _ hc1)
    · exact N5 p (less_sub p hp)
  refine execs_cut (law_s6 B X T hdp hun F5 hd1 less_off hA fun h6 tk6 x dx tb pb ct k1 k2 k3 k4 t1 t2 t3 t4 co o1' g6 F6 N6 hdo1 q0 q1 q2 q3 q4 hrx => ⟨rfl, ?_⟩)
  generalize hl6 : (x, instObj 390 dx) :: (dx, dictOf [⟨k1, .str (Str.ofString "token_buffer") t1, .ref tb⟩, ⟨k2, .str (Str.ofString "pushed_back") t2, .ref pb⟩, ⟨k3, .str (Str.ofString "current_text") t3, .ref ct⟩, ⟨k4, .str (Str.ofString "coptions") t4, co⟩] 4) :: (tb, PySem.W.listOf ([] : List Value).toArray 0) :: (pb, PySem.W.listOf ([] : List Value).toArray 0) :: (ct, PySem.W.listOf ([] : List Value).toArray 0) :: (L + 1, o1') :: (g6 ++ less l5 [L + 1]) = l6 at N6
  have inA : ∀ p ∈ l5, p.1 ≠ L + 1 → p ∈ less l5 [L + 1] := fun p hp hne => less_mem hp fun b hb => by rw [List.mem_singleton.mp hb]; exact hne
  have to6 : ∀ p ∈ less l5 [L + 1], p ∈ l6 := fun p hp => hl6 ▸ .tail _ (.tail _ (.tail _ (.tail _ (.tail _ (.tail _ (List.mem_append_right _ hp))))))
  have m3A := inA _ (up1 _ hc3) (Nat.ne_of_gt (Nat.lt_trans (nxt (L + 1)) (nxt (L + 1 + 1))))
  have m2A := inA _ (up1 _ hc2) (Nat.ne_of_gt (nxt (L + 1)))
  have m7A := inA _ (up1 _ ht2) (fun e => by
    have e' : @Eq Nat 497 (L + 1) := e
    exact (big_ne hL).1 e'.symm)
  have m5A := inA _ (up1 _ ht1) (fun e => by
    have e' : @Eq Nat 225 (L + 1) := e
    exact (big_ne hL).2.1 e'.symm)
  have hB : News h₀ L h6 ((L + 1 + 1 + 1, o3) :: (L + 1 + 1, o2) :: (497, tabObj #[]) :: less l6 [L + 1 + 1 + 1, L + 1 + 1, 497]) := fun p hp => by
    rcases List.mem_cons.mp hp with rfl | hp
    · exact N6 _ (to6 _ m3A)
    · rcases List.mem_cons.mp hp with rfl | hp
      · exact N6 _ (to6 _ m2A)
      · rcases List.mem_cons.mp hp with rfl | hp
        · exact N6 _ (to6 _ m7A)
        · exact N6 p (less_sub p hp)
  refine execs_two (law_s78 B X T hdp hun F6 hL hd3 hd2 less_off hB fun h8 tk8 f0 f1 o2' o3' ps8 g8 F8 N8 hdo3 hdo2 hf1 hf0 hg8 hg8L => ⟨rfl, ?_⟩)
  have g3 := hrx _ m3A
  have g2 := hrx _ m2A
  have g7 := hrx _ m7A
  have g25 := hrx _ m5A
  dsimp only at g3 g2 g7 g25
  generalize hl8 : (L + 1 + 1 + 1, o3') :: (L + 1 + 1, o2') :: (497, tabObj ps8) :: (g8 ++ less l6 [L + 1 + 1 + 1, L + 1 + 1, 497]) = l8 at N8
  have in6 : ∀ p ∈ l6, @LT.lt Nat _ (L + 1 + 1 + 1) p.1 → p ∈ l8 := fun p hp hlt => by
    refine hl8 ▸ .tail _ (.tail _ (.tail _ (List.mem_append_right _ (less_mem hp fun b hb e => ?_))))
    have e' : @Eq Nat p.1 b := e
    simp only [List.mem_cons, List.not_mem_nil, or_false] at hb
    rcases hb with rfl | rfl | rfl
    · exact (far3 hL hlt).1 e'
    · exact (far3 hL hlt).2.1 e'
    · exact (far3 hL hlt).2.2.1 e'
  have in6k : ∀ p ∈ l6, @Ne Nat p.1 (L + 1 + 1 + 1) → @Ne Nat p.1 (L + 1 + 1) → @Ne Nat p.1 497 → p ∈ less l6 [L + 1 + 1 + 1, L + 1 + 1, 497] := fun p hp n1 n2 n3 => less_mem hp fun b hb e => by
    simp only [List.mem_cons, List.not_mem_nil, or_false] at hb
    rcases hb with rfl | rfl | rfl
    · exact n1 e
    · exact n2 e
    · exact n3 e
  have toB : ∀ p ∈ less l6 [L + 1 + 1 + 1, L + 1 + 1, 497], p ∈ l8 := fun p hp => hl8 ▸ .tail _ (.tail _ (.tail _ (List.mem_append_right _ hp)))
  have mx : (x, instObj 390 dx) ∈ l6 := hl6 ▸ .head _
  have mdx : (dx, dictOf [⟨k1, .str (Str.ofString "token_buffer") t1, .ref tb⟩, ⟨k2, .str (Str.ofString "pushed_back") t2, .ref pb⟩, ⟨k3, .str (Str.ofString "current_text") t3, .ref ct⟩, ⟨k4, .str (Str.ofString "coptions") t4, co⟩] 4) ∈ l6 := hl6 ▸ .tail _ (.head _)
  have mtb : (tb, PySem.W.listOf ([] : List Value).toArray 0) ∈ l6 := hl6 ▸ .tail _ (.tail _ (.head _))
  have mpb : (pb, PySem.W.listOf ([] : List Value).toArray 0) ∈ l6 := hl6 ▸ .tail _ (.tail _ (.tail _ (.head _)))
  have mct : (ct, PySem.W.listOf ([] : List Value).toArray 0) ∈ l6 := hl6 ▸ .tail _ (.tail _ (.tail _ (.tail _ (.head _))))
  have mc1 : (L + 1, o1') ∈ l6 := hl6 ▸ .tail _ (.tail _ (.tail _ (.tail _ (.tail _ (.head _)))))
  have lx : @LT.lt Nat _ (L + 1 + 1 + 1) x := Nat.lt_trans g3 q1
  have ltb : @LT.lt Nat _ (L + 1 + 1 + 1) tb := Nat.lt_trans lx q2
  have lpb : @LT.lt Nat _ (L + 1 + 1 + 1) pb := Nat.lt_trans ltb q3
  have lct : @LT.lt Nat _ (L + 1 + 1 + 1) ct := Nat.lt_trans lpb q4
  have bx := in6k _ mx (far3 hL lx).1 (far3 hL lx).2.1 (far3 hL lx).2.2.1
  have bdx := in6k _ mdx (far3 hL g3).1 (far3 hL g3).2.1 (far3 hL g3).2.2.1
  have btb := in6k _ mtb (far3 hL ltb).1 (far3 hL ltb).2.1 (far3 hL ltb).2.2.1
  have bpb := in6k _ mpb (far3 hL lpb).1 (far3 hL lpb).2.1 (far3 hL lpb).2.2.1
  have bct := in6k _ mct (far3 hL lct).1 (far3 hL lct).2.1 (far3 hL lct).2.2.1
  have bc1 := in6k _ mc1 (Nat.ne_of_lt (Nat.lt_trans (nxt (L + 1)) (nxt (L + 1 + 1)))) (Nat.ne_of_lt (nxt (L + 1))) (big_ne hL).1
  have b25 := in6k _ (to6 _ m5A) (big_ne hL).2.2.2.symm (big_ne hL).2.2.1.symm (show @Ne Nat 225 497 by decide)
  generalize hr9 : less l8 [x, dx, tb, pb, ct, 225] = rest9
  have in9 : ∀ p ∈ l8, (@LT.lt Nat _ p.1 dx ∨ @LT.lt Nat _ ct p.1) → @Ne Nat p.1 225 → p ∈ rest9 := fun p hp hlt hne => by
    refine hr9 ▸ less_mem hp fun b hb e => ?_
    have e' : @Eq Nat p.1 b := e
    simp only [List.mem_cons, List.not_mem_nil, or_false] at hb
    rcases hb with rfl | rfl | rfl | rfl | rfl | rfl
    · exact out_of hlt (Nat.le_of_lt q1) (Nat.le_of_lt (Nat.lt_trans (Nat.lt_trans q2 q3) q4)) e'
    · exact out_of hlt (Nat.le_refl _) (Nat.le_of_lt (Nat.lt_trans q1 (Nat.lt_trans (Nat.lt_trans q2 q3) q4))) e'
    · exact out_of hlt (Nat.le_of_lt (Nat.lt_trans q1 q2)) (Nat.le_of_lt (Nat.lt_trans q3 q4)) e'
    · exact out_of hlt (Nat.le_of_lt (Nat.lt_trans (Nat.lt_trans q1 q2) q3)) (Nat.le_of_lt q4) e'
    · exact out_of hlt (Nat.le_of_lt (Nat.lt_trans q1 (Nat.lt_trans (Nat.lt_trans q2 q3) q4))) (Nat.le_refl _) e'
    · exact hne e'
  have r3 : (L + 1 + 1 + 1, o3') ∈ rest9 := in9 _ (hl8 ▸ .head _) (.inl g3) (big_ne hL).2.2.2
  have r2' : (L + 1 + 1, o2') ∈ rest9 := in9 _ (hl8 ▸ .tail _ (.head _)) (.inl g2) (big_ne hL).2.2.1
  have r7 : (497, tabObj ps8) ∈ rest9 := in9 _ (hl8 ▸ .tail _ (.tail _ (.head _))) (.inl g7) (show @Ne Nat 497 225 by decide)
  have r1 : (L + 1, o1') ∈ rest9 := in9 _ (toB _ bc1) (.inl q0) (big_ne hL).2.1
  have r8 : ∀ p ∈ g8, p ∈ rest9 := fun p hp => in9 p (hl8 ▸ .tail _ (.tail _ (.tail _ (List.mem_append_left _ hp)))) (.inr (hg8 p hp _ bct)) (far3 hL (hg8L p hp)).2.2.2.1
  have keep5 : ∀ p ∈ l5, Kd p.2 → p ∈ rest9 := fun p hp k => by
    have n1 := ne_cell N5 hp (up1 _ hc1) k hd1
    have n2 := ne_cell N5 hp (up1 _ hc2) k hd2
    have n3 := ne_cell N5 hp (up1 _ hc3) k hd3
    have n4 := ne_tab N5 hp (up1 _ ht1) k
    have n5 := ne_tab N5 hp (up1 _ ht2) k
    have a1 := inA p hp n1
    exact in9 p (toB _ (in6k p (to6 p a1) n3 n2 n5)) (.inl (hrx p a1)) n4
  obtain ⟨κ, hκ⟩ : ∃ κ : LxK, κ = { x := x, dx := dx, tb := tb, pb := pb, ct := ct, it := 0, cl := C, h1 := k1, h2 := k2, h3 := k3, h4 := k4, h5 := 0, t1 := t1, t2 := t2, t3 := t3, t4 := t4, t5 := 0, co := co, ndx := 4, ncl := nC5, cs := (flatG gs).map CI.c, sg := fun a => (ciOf (flatG gs) a).g, lo := fun a => (ciOf (flatG gs) a).lo, row := fun a => (ciOf (flatG gs) a).row, col := fun a => (ciOf (flatG gs) a).col } := ⟨_, rfl⟩
  have ci : ∀ z ∈ flatG gs, ciOf (flatG gs) z.c = z := fun z hz => ciOf_eq hpw hz
  have hgl : gs.length = (ksOf ns).length := by have := congrArg List.length hmp; simpa using this
  have hfl := flat_len gs (ksOf ns) hmp
  have rd : Ready κ #[] rest9 := by
    subst hκ
    refine ⟨q1, q2, q3, q4, fun p hp b hb => ?_, ?_, ?_, fun c hc => ?_, fun c hc => ?_, .inl rfl, ?_⟩
    · refine less_off (S := [x, dx, tb, pb, ct, 225]) p (hr9 ▸ hp) b ?_
      simp only [List.mem_cons, List.not_mem_nil, or_false] at hb ⊢
      rcases hb with hb | hb | hb | hb | hb <;> first | ((repeat (first | exact hb | exact Or.inl hb | exact Or.inr hb | exact Or.inl (Or.inl hb) | exact Or.inl (Or.inr hb) | exact Or.inl (Or.inr (Or.inl hb)) | exact Or.inl (Or.inr (Or.inr hb)) | apply Or.inr)); done) | simp [hb]
    · have e : crefs (flatG gs) = ((flatG gs).map CI.c).map Value.ref := by rw [List.map_map]; rfl
      exact e ▸ keep5 _ upC kd_seq
    · show ((flatG gs).map CI.c).length ≤ 900
      rw [List.length_map, hfl]
      exact ks_sizes hl
    · obtain ⟨z, hz, rfl⟩ := List.mem_map.mp hc
      show CharIn rest9 z.c (ciOf (flatG gs) z.c).g (ciOf (flatG gs) z.c).lo
      rw [ci z hz]
      exact (hch z hz).1.kd fun p hp k => keep5 p (upG p hp) k
    · obtain ⟨z, hz, rfl⟩ := List.mem_map.mp hc
      show LocIn rest9 (ciOf (flatG gs) z.c).lo (ciOf (flatG gs) z.c).row (ciOf (flatG gs) z.c).col
      rw [ci z hz]
      exact (hch z hz).2.kd fun p hp k => keep5 p (upG p hp) k
    · show @LT.lt Nat _ 500 dx
      exact (far3 hL g3).2.2.2.2
  have sti : StartIn rest9 κ.x f0 f1 (L + 1) (L + 1 + 1 + 1) (L + 1 + 1) o1' o3' o2' := by
    obtain ⟨a1, a2, a3, a4, a5, a6, a7, b1, b2, b3, b4⟩ := hf1
    obtain ⟨c1, c2, c3, c4, c5, c6, c7, e1, e2, e3, e4⟩ := hf0
    subst hκ
    exact ⟨r1, r3, r2', hdo1, hdo3, hdo2, ⟨a1, a2, a3, a4, a5, a6, a7, r8 _ b1, r8 _ b2, b3, b4⟩, ⟨c1, c2, c3, c4, c5, c6, c7, r8 _ e1, r8 _ e2, e3, e4⟩⟩
  have N9 : News h₀ L h8 (barLed κ 0 0 0 #[] rest9) := by
    subst hκ
    intro p hp
    simp only [barLed, List.mem_cons] at hp
    rcases hp with rfl | rfl | rfl | rfl | rfl | rfl | hp
    · exact N8 _ (toB _ bx)
    · exact N8 _ (toB _ bdx)
    · exact N8 _ (toB _ btb)
    · exact N8 _ (toB _ bpb)
    · exact N8 _ (toB _ bct)
    · exact N8 _ (toB _ b25)
    · exact N8 p (less_sub p (hr9 ▸ hp))
  have hchars : m5 (Str.ofString "chars") = some (.ref κ.cl) := by
    subst hκ
    exact (hkeep _ (by decide) (by decide) (by decide) (by decide) (by decide)).trans ((if_neg (by decide)).trans ((if_neg (by decide)).trans ((if_neg (by decide)).trans (if_pos rfl))))
  have htoks : Toks κ.sg κ.cs (gs.map fun k => (k.1, k.2.map CI.c)) := by
    subst hκ
    exact good_toks (ks_good ns) gs hmp fun z hz => by show (ciOf (flatG gs) z.c).g = z.g; rw [ci z hz]
  have hκr : ∀ z ∈ flatG gs, κ.sg z.c = z.g ∧ κ.row z.c = z.row ∧ κ.col z.c = z.col := by
    subst hκ
    intro z hz
    show (ciOf (flatG gs) z.c).g = z.g ∧ (ciOf (flatG gs) z.c).row = z.row ∧ (ciOf (flatG gs) z.c).col = z.col
    rw [ci z hz]
    exact ⟨rfl, rfl, rfl⟩
  clear hκ
  have hall : (gs.map fun k => (k.1, k.2.map CI.c)).length ≤ 900 := by
    rw [List.length_map, hgl]
    exact Nat.le_trans (ks_len hl) (by decide)
  refine execs_cut ?_
  rw [eG9]
  refine got_ok (κ := κ) (δ := ⟨f0, f1, L + 1, L + 1 + 1 + 1, L + 1 + 1, o1', o3', o2', []⟩) B F8 X rd N9 T hdp hun sti rfl rfl hchars htoks hall hbare fun h9 gn9 tk9 D9 tups ps9 r9 hq hsub9 F9 N9' htab9 hbare9 => ⟨rfl, ?_⟩
  generalize hl10 : (D9, LCg.lst (refs tups)) :: (tups ++ (225, tabObj ps9) :: r9) = l10 at N9'
  have to10 : ∀ p ∈ rest9, p ∈ l10 := fun p hp => hl10 ▸ .tail _ (List.mem_append_right _ (.tail _ (hsub9 p hp)))
  obtain ⟨rs, hrs1, hrs2, hrs3⟩ := rows_eq hdu hq hκr
  have hrs : rs.map (fun r => (r.1, r.2.1)) = ksOf ns := by
    rw [hrs3]
    have e := congrArg (List.map fun p : Str × List Nat => (p.1, (⟨p.2.toArray⟩ : Str))) hmp
    rw [List.map_map, List.map_map] at e
    refine e.trans ?_
    exact (List.map_congr_left fun k _ => rfl).trans (List.map_id _)
  have ok := rowsOk_of (ks_piece ns) rs hrs
  have nr := numRows_of (ks_num ns) rs hrs
  have hD10 : (D9, PySem.W.listOf (refs tups).toArray (refs tups).length) ∈ l10 := hl10 ▸ .head _
  have hts10 : ∀ p ∈ tups, p ∈ l10 := fun p hp => hl10 ▸ .tail _ (List.mem_append_left _ hp)
  have hU10 := to10 _ (keep5 _ upU kd_seq)
  have hus10 : ∀ p ∈ us, p ∈ l10 := fun p hp => to10 _ (keep5 p (upG p (hus p hp)) (hdu.kd p hp))
  have hdue : m5 (Str.ofString "due") = some (.ref U4) := (hkeep _ (by decide) (by decide) (by decide) (by decide) (by decide)).trans ((if_neg (by decide)).trans ((if_neg (by decide)).trans (if_pos rfl)))
  have hwor : m5 (Str.ofString "worths") = some (.ref W) := (hkeep _ (by decide) (by decide) (by decide) (by decide) (by decide)).trans ((if_neg (by decide)).trans ((if_neg (by decide)).trans ((if_neg (by decide)).trans ((if_neg (by decide)).trans hW2))))
  have hw10 : Worths l10 wts (barsW ns ((ns.length + 3) / 4)) := hw2.kd fun p hp k => to10 _ (keep5 p (up2 p hp) k)
  have hW10 := to10 _ (keep5 _ upW kd_seq)
  have htl : tups.length ≤ 900 := by rw [hq.length]; exact hall
  refine execs_cut (law_s10 B X T hdp hun F9 N9' hD10 hU10 hrs1 hrs2 hts10 hus10 ok (if_pos rfl) ((if_neg (by decide)).trans hdue) fun h10 tk10 F10 N10 => ⟨rfl, ?_⟩)
  refine execs_ret (law_s11 B X T hdp hun F10 N10 hD10 hrs1 hts10 nr (if_pos rfl) htl hw10 hW10 (bar_words ns _) ((if_neg (by decide)).trans hwor) fun h11 tk11 r11 F11 N11 hs11 => ⟨_, rfl, ?_⟩)
  exact h h11 gn9 tk11 r11 ps9 ps8 N11 F11.keep (hs11 _ (hl10 ▸ .tail _ (List.mem_append_right _ (.head _)))) (hs11 _ (to10 _ r7)) hbare9
end
section
open PySem PySem.W PyProof.Rows PySem.Calls
set_option maxRecDepth 100000
set_option maxHeartbeats 400000


noncomputable def tapeOf (xs : List Int) : List Int := if xs.take 20 = [] then [56, 31, 39, 1] else (xs.take 20).map fun n => n.fmod (10 ^ Int.toNat 12)
theorem law_s0 {w : World} {mean : ExcName → Option Value} {mg mb : Str → Option Value} {dp un : Nat} {gd : Option (List Code)} {L fa : Addr} {outer : List Env} {A₀ : Around} {base h₀ : Heap} {m : Str → Option Value} {s : Shared} {E : Value → Shared → Prop} {Q : Flow → Shared → Prop} (B : Below A₀ base outer h₀) (X : (hd.heap_39 w.params).In h₀) (T : Top view loose mean mg mb h₀) (hdp : dp + 30 < recursionLimit) (hun : un + 300 < cLine) (F : Fr h₀ L s.heap m) {o1 o2 o3 : Obj} (hL : @LT.lt Nat _ 225 L ∧ @LT.lt Nat _ 497 L) (N : News h₀ L s.heap [(L + 1 + 1 + 1, o3), (L + 1 + 1, o2), (L + 1, o1), (225, tabObj #[]), (497, tabObj #[])])
    {S : Addr} {vs : List Value} {xs : List Int} (hS : h₀.IsList S vs.toArray) (hi : IntsAre vs xs) (hlen : xs.length ≤ 63) (hm : m (Str.ofString "script") = some (.ref S))
    (h : ∀ h' tk' D nD ys rest', Fr h₀ L h' (setN (Str.ofString "tape") (.ref D) m) → News h₀ L h' rest' → (∀ p ∈ [(L + 1 + 1 + 1, o3), (L + 1 + 1, o2), (L + 1, o1), (225, tabObj #[]), (497, tabObj #[])], p ∈ rest') → (D, PySem.W.listOf ys.toArray nD) ∈ rest' → IntsAre ys (tapeOf xs) → Q .next { s with heap := h', toks := tk' }) : wpAny (model PySem.Challenge.pw_rk0008_01 w) (lawA dp un gd L fa outer) (exec (lawSt 0) (lawEnv L fa)) Q E s := by
  have eL : lawDefn = lawDefn := rfl
  conv at eL => rhs; whnf
  have eU : lawSt 0 = lawSt 0 := rfl
  conv at eU => rhs; whnf
  rw [eU]
  unfold lawA lawEnv
  rw [eL]
  dsimp only
  walk1
  k_steps
  · rename Fr _ _ _ _ => F8
    rename News _ _ _ _ => N8
    rename 0 < _ => hc
    rename IntsAre _ (List.map _ _) => hI8
    have e : tapeOf xs = (xs.take 20).map fun n => n.fmod (10 ^ Int.toNat 12) := if_neg fun e => by rw [e] at hc; exact absurd hc (by decide)
    rw [← e] at hI8
    exact h _ _ _ _ _ _ F8 N8 (fun p hp => .tail _ (.tail _ hp)) (.head _) hI8
  · rename Fr _ _ _ _ => F8
    rename News _ _ _ _ => N8
    rename ¬ 0 < _ => hc
    have e : tapeOf xs = [56, 31, 39, 1] := if_pos (List.eq_nil_of_length_eq_zero (by rw [List.length_map] at hc; omega))
    refine h _ _ _ _ [_, _, _, _] _ F8 N8 (fun p hp => .tail _ (.tail _ (.tail _ hp))) (.head _) ?_
    rw [e]
    exact .cons _ _ (.cons _ _ (.cons _ _ (.cons _ _ .nil)))
theorem tape_len (xs : List Int) : (tapeOf xs).length ≤ 20 ∧ 0 < (tapeOf xs).length := by
  unfold tapeOf
  split
  · exact ⟨by decide, by decide⟩
  · rename_i h
    rw [List.length_map]
    exact ⟨by rw [List.length_take]; exact Nat.min_le_left _ _, List.length_pos_iff.mpr h⟩
theorem tape_pos (xs : List Int) : ∀ x ∈ tapeOf xs, 0 ≤ x := by
  intro x hx
  unfold tapeOf at hx
  split at hx
  · simp only [List.mem_cons, List.not_mem_nil, or_false] at hx
    omega
  · obtain ⟨y, _, rfl⟩ := List.mem_map.mp hx
    exact Int.fmod_nonneg_of_pos _ (by decide)
theorem law_all {w : World} {mean : ExcName → Option Value} {mg mb : Str → Option Value} {dp un : Nat} {gd : Option (List Code)} {L fa : Addr} {outer : List Env} {A₀ : Around} {base h₀ : Heap} {m : Str → Option Value} {s : Shared} {E : Value → Shared → Prop} {Q : Flow → Shared → Prop} (B : Below A₀ base outer h₀) (X : (hd.heap_39 w.params).In h₀) (T : Top view loose mean mg mb h₀) (hdp : dp + 30 < recursionLimit) (hun : un + 300 < cLine) (F : Fr h₀ L s.heap m) {o1 o2 o3 : Obj} (hd1 : o1.data = .cell none) (hd2 : o2.data = .cell none) (hd3 : o3.data = .cell none) (N : News h₀ L s.heap [(L + 1 + 1 + 1, o3), (L + 1 + 1, o2), (L + 1, o1), (225, tabObj #[]), (497, tabObj #[])])
    {S : Addr} {vs : List Value} {xs : List Int} (hS : h₀.IsList S vs.toArray) (hi : IntsAre vs xs) (hlen : xs.length ≤ 63) (hm : m (Str.ofString "script") = some (.ref S)) (hbare : AllBare s.gens)
    (h : ∀ h' gn' tk' rest' ps ps', News h₀ L h' rest' → (∀ b o, h₀.get? b = some o → h'.get? b = some o) → (225, tabObj ps) ∈ rest' → (497, tabObj ps') ∈ rest' → AllBare gn' → Q (.ret (.bool true)) { s with heap := h', gens := gn', toks := tk' }) :
    wpAny (model PySem.Challenge.pw_rk0008_01 w) (lawA dp un gd L fa outer) (execs lawDefn.2.1 (lawEnv L fa)) Q E s := by
  have hL : @LT.lt Nat _ 499 L := by
    obtain ⟨o, e⟩ : ∃ o, h₀.get? 499 = some o := by
      have hC := codeHd_of_K (c := 499) (P := 497) X (by kernel_rfl)
      obtain ⟨o, _, _, _, _, _, _, _, _, hC, _⟩ := hC
      exact ⟨o, hC⟩
    exact Nat.lt_of_lt_of_le (Heap.lt_size e) F.above
  change wpAny _ _ (execs (lawSt 0 :: lawSt 1 :: lawSt 2 :: lawSt 3 :: lawSt 4 :: lawSt 5 :: lawSt 6 :: lawSt 7 :: lawSt 8 :: lawSt 9 :: lawSt 10 :: lawSt 11 :: []) _) _ _ _
  refine execs_cut (law_s0 B X T hdp hun F ⟨by omega, by omega⟩ N hS hi hlen hm fun h1 tk1 D nD ys rest' F1 N1 hsub hD hys => ⟨rfl, ?_⟩)
  refine law_walk B X T hdp hun F1 hd1 hd2 hd3 hL N1 (hsub _ (.tail _ (.tail _ (.head _)))) (hsub _ (.tail _ (.head _))) (hsub _ (.head _)) (hsub _ (.tail _ (.tail _ (.tail _ (.head _))))) (hsub _ (.tail _ (.tail _ (.tail _ (.tail _ (.head _)))))) hD hys (tape_len xs).1 (tape_len xs).2 (tape_pos xs) (if_pos rfl) hbare h
end
end
end Mine
end
open PySem PySem.W PyProof.Rows PySem.Calls
set_option maxRecDepth 100000
namespace Mine
/-- how the law ends -/
noncomputable def LawEnd (s₁ : Shared) (tabs : List (Addr × Addr)) (r : Result) (s' : Shared) : Prop :=
  r = .ok (.ret (.bool true)) ∧ (∀ b o, (ghostOf s₁.heap tabs).get? b = some o → s'.heap.get? b = some o) ∧ s'.os = s₁.os ∧ AllBare s'.gens ∧ ∀ q ∈ tabs, ∃ ps, s'.heap.get? q.2 = some (tabObj ps)
theorem law_ends {M : Model} {A : Around} {cd : Code} {s s₁ : Shared} {cw : ClaimW} {cl : Str → Option Addr} {mean : ExcName → Option Value} {args : List WData} {tabs : List (Addr × Addr)} (hT : TabsAt tabs s₁.heap) (hr : ∀ a x, cw.raises a x = false) (hp : cw.post args (.bool true) args = true)
    (h : codeAny M A cd (LawEnd s₁ tabs) s) : codeAny M A cd (GoodWG cw cl mean args s₁) s := by
  refine codeAny_mono h fun r s' ⟨hv, hk, hos, hg, ht⟩ => ?_
  subst hv
  have at_ : ∀ b o, s₁.heap.get? b = some o → (b ∉ tabs.map (·.2) ∧ s'.heap.get? b = some o) ∨ (∃ q ∈ tabs, q.2 = b ∧ o = tabObj #[]) := fun b o e => by
    by_cases hb : b ∈ tabs.map (·.2)
    · obtain ⟨q, hq, rfl⟩ := List.mem_map.mp hb
      have e2 := (hT q hq).2
      rw [e] at e2
      exact .inr ⟨q, hq, rfl, Option.some.inj e2⟩
    · exact .inl ⟨hb, hk b o (hideAll_get _ e hb)⟩
  refine ⟨.inl ⟨.bool true, .bool true, [], rfl, hr args, .bool true, hp, fun _ => ⟨List.nodup_nil, fun _ h => nomatch h⟩⟩, ⟨fun b o e => ?_, fun b o e => ?_⟩, hos, hg⟩
  · rcases at_ b o e with ⟨_, h⟩ | ⟨q, hq, rfl, rfl⟩
    · exact .inl h
    · obtain ⟨ps, hps⟩ := ht q hq
      exact .inr (.inl ⟨((hT q hq).1.tab (hT q hq).2).isCodeTable, rfl, #[], ps, rfl, by rw [Array.empty_append]; exact hps⟩)
  · rcases at_ b o e with ⟨_, h⟩ | ⟨q, hq, rfl, rfl⟩
    · exact ⟨o, h⟩
    · obtain ⟨ps, hps⟩ := ht q hq
      exact ⟨_, hps⟩
theorem claim_post (args ds : List WData) : PySem.Challenge.rw_rk0008_01.row.claim.post args (.bool true) ds = true := by
  show (WShape.has [] (.bool true) .bool && WTm.holds [] (WTm.eq .res (.lit (.bool true))) { args := args, res := some (.bool true), after := ds }) = true
  rw [Bool.and_eq_true]
  refine ⟨by simp [WShape.has, WShape.arms], ?_⟩
  unfold WTm.holds
  rw [w_eq_bool (k := true) (l := true) (w_res rfl) w_lit]
  rfl
end Mine
set_option maxRecDepth 100000 in
set_option maxHeartbeats 8000000 in
theorem PySem.Challenge.cw_rk0008_01_holds : PySem.Challenge.rw_rk0008_01.Holds := by
  refine Mine.hd ?_
  k_fill
  intro w s₀ s₁ mg mb G Y fa o pm cd doc dV kV ho hd hcd hD hmg hg args vals as hpre hlay hrd hwl hlo
  have KX := km_in_of Y
  have hT8 := km_tabs_of Y
  have X := (Ground.X G).1
  have V := (Ground.X G).2
  refine Ground.open G ?_
  intro T B D TE TW
  try (refine guard_noD D (by decide +kernel) ?_; clear D)
  have hT9 : TabsAt ([(229, 225), (499, 497)] : List (Addr × Addr)) _ := List.forall_mem_cons.mpr ⟨⟨codeHd_of_K (c := 229) (P := 225) KX (by kernel_rfl), hT8 225 (by simp)⟩, List.forall_mem_cons.mpr ⟨⟨codeHd_of_K (c := 499) (P := 497) KX (by kernel_rfl), hT8 497 (by simp)⟩, fun _ h => nomatch h⟩⟩
  have he9 : cd = PySem.Value.ref 499 := law_code (x := PySem.Str.ofString "law") (c := 499) (P := 497) KX (Top.g T) (by kernel_rfl) hmg ho hd
  subst he9
  clear hmg
  wrow_args hpre hlay hrd hwl hlo
  all_goals (
    first | refine callC_kw (enter_call ?_) | refine enter_call ?_
    w_top on
    refine Mine.law_ends hT9 (fun _ _ => rfl) (Mine.claim_post _ _) ?_
    w_call any ho hd hcd hD T F
    clear hd
    kn_ghosts F T
    k_drop
    skip)
  all_goals try k_fold
  rename News _ _ _ _ => N9
  rename Fr _ _ _ _ => F9
  rename Frag.In _ _ => X9
  rename Top topProg _ _ _ _ _ => T9
  rename Below _ _ _ _ => B9
  rename Heap.IsList (ghostOf _ _) _ _ => lifted9
  rename IntsAre _ _ => hI9
  rename ¬ _ < _ => hlen9
  clear hcd hD
  refine Mine.law_all B9 X9 T9 (by decide) (by decide) F9 (by assumption) (by assumption) (by assumption) N9 lifted9 hI9 (by omega) (by rfl) (hg ▸ AllBare.empty) ?_
  intro h' gn' tk' rest' ps ps' N' hk h1 h2 hb
  exact ⟨rfl, hk, rfl, hb, List.forall_mem_cons.mpr ⟨⟨_, (N' _ h1).1⟩, List.forall_mem_cons.mpr ⟨⟨_, (N' _ h2).1⟩, fun _ h => nomatch h⟩⟩⟩
